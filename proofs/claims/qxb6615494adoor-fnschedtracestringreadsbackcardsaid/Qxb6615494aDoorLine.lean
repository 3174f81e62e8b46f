import Derived.Test.Qxb6615494aDoorShelf
import Derived.Lib.AppendIntMem
import Derived.Lib.ItoaLen
import Derived.WalkKit
import Derived.WalkSpells
import Derived.WalkLawsBesides
import Derived.Deep.RegionHeld3
import Derived.Deep.LoopGhost
namespace Go.Proofs.Qxb6615494aDoor
open Go.RowKit
set_option linter.unusedVariables false

theorem info5 : (Tryd.prog.info? 5).map (fun i => (i.zero, i.size, i.bytes)) = some (some (.int .u8 0), 1, 1) := by kernel_rfl

/-- The value v owns the text l (in blocks from B on); below B the world is as W1 was; the table of powers of ten lies there. -/
structure Txt (B : Nat) (W1 wr : World) (v : Value) (l : List UInt8) : Prop where
  own : wr.ownsRow B 5 1 v l.length (Lib.byteCells l)
  bel : Below B W1 wr
  hB : B ≤ wr.heap.size
  tab : Lib.TabBelow Tryd.prog B wr powName .u64 Lib.pow10Tab

theorem Txt.of {B : Nat} {W1 w wr : World} {v v' : Value} {l m : List UInt8} (h : Txt B W1 w v l) (ho : wr.ownsRow B 5 1 v' (l.length + m.length) (Lib.byteCells l ++ Lib.byteCells m)) (hb : Below B w wr) : Txt B W1 wr v' (l ++ m) := by
  refine ⟨?_, h.bel.trans hb, Nat.le_trans h.hB hb.size, h.tab.on hb⟩
  have e : Lib.byteCells (l ++ m) = Lib.byteCells l ++ Lib.byteCells m := by simp [Lib.byteCells]
  rw [e, List.length_append]
  exact ho

theorem Txt.start (B : Nat) (W1 : World) (hB : B ≤ W1.heap.size) (ht : Lib.TabBelow Tryd.prog B W1 powName .u64 Lib.pow10Tab) : Txt B W1 W1 (.slice none 0 0) [] := ⟨World.ownsRow_nil _ _ _ _, Below.refl _ _, hB, ht⟩

theorem app_int (B : Nat) (W1 w : World) (v : Value) (l : List UInt8) (i : Int) (h0 : -9223372036854775808 ≤ i) (h1 : i ≤ 9223372036854775807) (hl : l.length ≤ 1073741824) (h : Txt B W1 w v l) :
    Calls Tryd.prog 12 #[v, .int .i64 i, .int .i64 10] w fun e w' => ∃ v', e = .returned v' ∧ Txt B W1 w' v' (l ++ Lib.itoa i) := by
  refine (Tryd.strconv_AppendInt_10 B l.length i h0 h1 v (Lib.byteCells l) w h.own h.hB (by omega) h.tab).mono ?_
  rintro e w' ⟨v', he, ho, hb, _⟩
  exact ⟨v', he, h.of ho hb⟩

theorem str_step (B : Nat) (W1 w : World) (v : Value) (l : List UInt8) (s : ByteArray) (ty : TypeId) (hl : l.length ≤ 1073741824) (hs : s.size ≤ 1000) (h : Txt B W1 w v l) :
    ∃ v' w', (Builtin.append_ #[35, 9] ty #[v, .string s]).run Tryd.prog w = .ok v' w' ∧ Txt B W1 w' v' (l ++ s.data.toList) := by
  obtain ⟨i5, hi5, hz0, hz1, hz2⟩ := info_parts info5
  obtain ⟨v', w', hr, h2, h3, _⟩ := Lib.run_append_own_string (P := Tryd.prog) w B 35 9 ty 5 i5 Tryd.underlying35 Tryd.underlying9 hi5 hz0 hz1 hz2 v l.length (Lib.byteCells l) h.own s (by unfold maxLen; omega) (by omega) h.hB
  have e : s.size = s.data.toList.length := Array.length_toList.symm
  refine ⟨v', w', hr, h.of (by rw [← e]; exact h2) ?_⟩
  exact (Below.refl _ _).grown h3 h.hB (fun k hk => (h.own.lt k hk).1)

/-- 'append(b, ......)' as one step of a region that draws its order. -/
theorem step_append_str {ops : Array Oper} {o : Oper} {a : Act} {w : World} {K : Act → World → Prop} {Q : Exit → Act → World → Prop} {E : Prop} (hgd : o.guard = none) (sl x : Operand)
    (ho : o.op = .call { callee := .builtin .append, args := #[sl, x], argTypes := #[35, 9] }) (B : Nat) (W1 : World) (v : Value) (l : List UInt8) (s : ByteArray) (hsl : a.eval sl = v) (hx : a.eval x = .string s)
    (hl : l.length ≤ 1073741824) (hs : s.size ≤ 1000) (h : Txt B W1 w v l)
    (hK : ∀ v' w', Txt B W1 w' v' (l ++ s.data.toList) → K (a.put o.dst v') w') :
    if Region.wanted o (yielded ops a.tmps) = true then Oper.wp Tryd.prog o a w K Q else E := by
  have hw : Region.wanted o (yielded ops a.tmps) = true := by simp [Region.wanted, hgd]
  rw [if_pos hw]
  obtain ⟨v', w', hr, h2⟩ := str_step B W1 w v l s o.type hl hs h
  unfold Oper.wp
  simp [execOp, ho, resolve, invoke, builtin, hsl, hx, hr, Result.andThen]
  exact hK v' w' h2

theorem wpList_append_str {ops : Array Oper} {rest : List Oper} {o : Oper} {a : Act} {w : World} {Q : Exit → Act → World → Prop} (hgd : o.guard = none) (sl x : Operand)
    (ho : o.op = .call { callee := .builtin .append, args := #[sl, x], argTypes := #[35, 9] }) (B : Nat) (W1 : World) (v : Value) (l : List UInt8) (s : ByteArray) (hsl : a.eval sl = v) (hx : a.eval x = .string s)
    (hl : l.length ≤ 1073741824) (hs : s.size ≤ 1000) (h : Txt B W1 w v l)
    (hK : ∀ v' w', Txt B W1 w' v' (l ++ s.data.toList) → wpList Tryd.prog ops Q rest (a.put o.dst v') w') : wpList Tryd.prog ops Q (o :: rest) a w := by
  refine wpList_plain hgd fun K hK' => ?_
  obtain ⟨v', w', hr, h2⟩ := str_step B W1 w v l s o.type hl hs h
  unfold Oper.wp
  simp [execOp, ho, resolve, invoke, builtin, hsl, hx, hr, Result.andThen]
  exact hK' _ _ (hK v' w' h2)

/-- The seven fields of a SchedTrace in the block b. -/
def StAt (W : World) (b : Nat) (at_ i1 i2 i3 i4 i5 : Int) (q : Value) : Prop :=
  W.heap[b]? = some (.cells #[.int .i64 at_, .int .i64 i1, .int .i64 i2, .int .i64 i3, .int .i64 i4, .int .i64 i5, q] 27 (0, 0))

theorem byte_step (B : Nat) (W1 w : World) (v : Value) (l : List UInt8) (c : UInt8) (z : Int) (hz : z = (c.toNat : Int)) (ty : TypeId) (hl : l.length ≤ 1073741824) (h : Txt B W1 w v l) :
    ∃ v' w', (Builtin.append_ #[35, 35] ty #[v, .slice (some ⟨w.heap.size, 0, none⟩) 1 1]).run Tryd.prog (w.alloc (.cells #[.int .u8 z] 5)) = .ok v' w' ∧ Txt B W1 w' v' (l ++ [c]) := by
  subst hz
  obtain ⟨i5, hi5, hz0, hz1, hz2⟩ := info_parts info5
  have hb : Below B w (w.alloc (.cells #[.int .u8 (c.toNat : Int)] 5)) := (Below.refl _ _).alloc h.hB _
  obtain ⟨v', w', hr, h2, h3, _⟩ := run_append_own (P := Tryd.prog) (w.alloc (.cells #[.int .u8 (c.toNat : Int)] 5)) B 35 ty 5 i5 (.int .u8 0) 1 1 Tryd.underlying35 hi5 hz0 hz1 hz2 rfl (by decide) v l.length (Lib.byteCells l) (h.own.alloc _) ⟨w.heap.size, 0, none⟩ 1 1 [.int .u8 (c.toNat : Int)] rfl (by
    intro j u hj
    match j, hj with
    | 0, hj => simp at hj; subst hj; simp [Addr.add]) (by intro u hu; simp at hu; subst hu; rfl) (by unfold maxLen; omega) (by omega) (Nat.le_trans h.hB (by simp))
  refine ⟨v', w', hr, h.of (m := [c]) h2 (hb.trans ((Below.refl _ _).grown h3 (Nat.le_trans h.hB (by simp)) (fun k hk => (h.own.lt k hk).1)))⟩

theorem wpList_append_byte {ops : Array Oper} {rest : List Oper} {o : Oper} {a : Act} {w : World} {Q : Exit → Act → World → Prop} (hgd : o.guard = none) (sl x : Operand)
    (ho : o.op = .call { callee := .builtin .append, args := #[sl, x], argTypes := #[35, 35] }) (B : Nat) (W1 : World) (v : Value) (l : List UInt8) (c : UInt8) (z : Int) (hz : z = (c.toNat : Int)) (hsl : a.eval sl = v) (hx : a.eval x = .slice (some ⟨w.heap.size, 0, none⟩) 1 1)
    (hl : l.length ≤ 1073741824) (h : Txt B W1 w v l)
    (hK : ∀ v' w', Txt B W1 w' v' (l ++ [c]) → wpList Tryd.prog ops Q rest (a.put o.dst v') w') : wpList Tryd.prog ops Q (o :: rest) a (w.alloc (.cells #[.int .u8 z] 5)) := by
  refine wpList_plain hgd fun K hK' => ?_
  obtain ⟨v', w', hr, h2⟩ := byte_step B W1 w v l c z hz o.type hl h
  unfold Oper.wp
  simp [execOp, ho, resolve, invoke, builtin, hsl, hx, hr, Result.andThen]
  exact hK' _ _ (hK v' w' h2)

theorem Txt.drew {B : Nat} {W1 wr : World} {v : Value} {l : List UInt8} (h : Txt B W1 wr v l) : Txt B W1 wr.drew v l := ⟨h.own, h.bel.drew, h.hB, h.tab.on ((Below.refl _ _).drew)⟩

theorem Txt.cell {B : Nat} {W1 wr : World} {v : Value} {l : List UInt8} (h : Txt B W1 wr v l) {b j : Nat} {x : Value} (hc : W1.cell? ⟨b, j, none⟩ = some x) (hb : b < B) : wr.cell? ⟨b, j, none⟩ = some x :=
  (h.bel.cell (p := ⟨b, j, none⟩) hb).trans hc

def S1 : List UInt8 := [83, 67, 72, 69, 68, 32]
def S2 : List UInt8 := [109, 115, 58, 32, 103, 111, 109, 97, 120, 112, 114, 111, 99, 115, 61]
def S3 : List UInt8 := [32, 105, 100, 108, 101, 112, 114, 111, 99, 115, 61]
def S4 : List UInt8 := [32, 116, 104, 114, 101, 97, 100, 115, 61]
def S5 : List UInt8 := [32, 115, 112, 105, 110, 110, 105, 110, 103, 116, 104, 114, 101, 97, 100, 115, 61]
def S6 : List UInt8 := [32, 110, 101, 101, 100, 115, 112, 105, 110, 110, 105, 110, 103, 61, 48, 32, 105, 100, 108, 101, 116, 104, 114, 101, 97, 100, 115, 61]
def S7 : List UInt8 := [32, 114, 117, 110, 113, 117, 101, 117, 101, 61]

/-- The line up to the local queues. -/
def head (ms n i1 i2 i3 i4 i5 : Int) : List UInt8 :=
  ((((((S1 ++ Lib.itoa ms) ++ S2 ++ Lib.itoa n) ++ S3 ++ Lib.itoa i1) ++ S4 ++ Lib.itoa i2) ++ S5 ++ Lib.itoa i3) ++ S6 ++ Lib.itoa i4) ++ S7 ++ Lib.itoa i5

/-- The first k local queues, as the line gives them. -/
def quRow (zs : List Int) : Nat → List UInt8
  | 0 => []
  | k + 1 => quRow zs k ++ ((if 0 < k then [32] else []) ++ Lib.itoa (zs.getD k 0))

set_option maxHeartbeats 4000000 in
theorem appendTo_any (at_ ms i1 i2 i3 i4 i5 : Int) (la : Option Addr) (ln lc : Nat) (w : World) (ht : Lib.TabIs Tryd.prog w powName .u64 Lib.pow10Tab) (hms : IntKind.i64.wrap (at_.tdiv 1000000) = ms)
    (m0 : -9223372036854775808 ≤ ms) (m1 : ms ≤ 9223372036854775807) (a1 : -9223372036854775808 ≤ i1) (b1 : i1 ≤ 9223372036854775807) (a2 : -9223372036854775808 ≤ i2) (b2 : i2 ≤ 9223372036854775807) (a3 : -9223372036854775808 ≤ i3) (b3 : i3 ≤ 9223372036854775807) (a4 : -9223372036854775808 ≤ i4) (b4 : i4 ≤ 9223372036854775807) (a5 : -9223372036854775808 ≤ i5) (b5 : i5 ≤ 9223372036854775807) (hln : ln ≤ 65536) (zs : List Int) (qb : Nat) (hla : la = some ⟨qb, 0, none⟩ ∨ ln = 0) (HQ : Hid (∀ k, k < ln → qb < w.heap.size ∧ w.cell? ⟨qb, k, none⟩ = some (.int .i64 (zs.getD k 0)) ∧ -9223372036854775808 ≤ zs.getD k 0 ∧ zs.getD k 0 ≤ 9223372036854775807)) :
    Calls Tryd.prog 11 #[.agg #[.int .i64 at_, .int .i64 i1, .int .i64 i2, .int .i64 i3, .int .i64 i4, .int .i64 i5, .slice la ln lc], .slice none 0 0] w fun e w' => ∃ v', e = .returned v' ∧ Txt (w.heap.size + 1) w' w' v' (head ms ln i1 i2 i3 i4 i5 ++ [32, 91] ++ quRow zs ln ++ [93]) ∧ Below w.heap.size w w' := by
  obtain ⟨box, ebox⟩ : ∃ box, box = Obj.cells #[.int .i64 at_, .int .i64 i1, .int .i64 i2, .int .i64 i3, .int .i64 i4, .int .i64 i5, .slice la ln lc] 27 := ⟨_, rfl⟩
  have htb := Lib.tabBelow_of_tabIs ht
  go_enter Tryd.func11, Tryd.ntmps11
  go_wp2
  rw [← ebox]
  have hb : (w.alloc box).heap[w.heap.size]? = some (.cells #[.int .i64 at_, .int .i64 i1, .int .i64 i2, .int .i64 i3, .int .i64 i4, .int .i64 i5, .slice la ln lc] 27 (0, 0)) := by rw [ebox]; exact heap_alloc_new w _
  have hbl : Below w.heap.size w (w.alloc box) := (Below.refl _ _).alloc (Nat.le_refl _) _
  have T0 : Txt (w.heap.size + 1) (w.alloc box) (w.alloc box) (.slice none 0 0) [] := Txt.start _ _ (by simp) (fun w' h' => htb w' (hbl.trans (h'.mono (by omega))))
  generalize w.alloc box = W1 at *
  have c0 : W1.cell? ⟨w.heap.size, 0, none⟩ = some (.int .i64 at_) := by simp [World.cell?, hb]
  have c1 : W1.cell? ⟨w.heap.size, 1, none⟩ = some (.int .i64 i1) := by simp [World.cell?, hb]
  have c2 : W1.cell? ⟨w.heap.size, 2, none⟩ = some (.int .i64 i2) := by simp [World.cell?, hb]
  have c3 : W1.cell? ⟨w.heap.size, 3, none⟩ = some (.int .i64 i3) := by simp [World.cell?, hb]
  have c4 : W1.cell? ⟨w.heap.size, 4, none⟩ = some (.int .i64 i4) := by simp [World.cell?, hb]
  have c5 : W1.cell? ⟨w.heap.size, 5, none⟩ = some (.int .i64 i5) := by simp [World.cell?, hb]
  have c6 : W1.cell? ⟨w.heap.size, 6, none⟩ = some (.slice la ln lc) := by simp [World.cell?, hb]
  have hbB : w.heap.size < w.heap.size + 1 := by omega
  clear hb ebox htb ht
  go_region_held3 (fun w' => w'.cell? ⟨w.heap.size, 0, none⟩ = some (.int .i64 at_)) (first | go_keep | exact Txt.cell ‹_› c0 hbB)
    (first | (refine step_append_str (by rfl) (.tmp 7) _ (by rfl) (w.heap.size + 1) W1 (.slice none 0 0) [] _ (by rfl) (by rfl) (by simp) (by decide) T0.drew ?_; intro u1 x1 X1) | (go_at_call 12; refine (app_int (w.heap.size + 1) W1 x1 u1 _ ms m0 m1 (by decide) X1).mono ?_; rintro e y1 ⟨v1, rfl, Y1⟩))
  obtain ⟨l1, e1⟩ : ∃ l1, l1 = S1 ++ Lib.itoa ms := ⟨_, rfl⟩
  have T1 : Txt (w.heap.size + 1) W1 y1 v1 l1 := by rw [e1]; exact ⟨Y1.own, Y1.bel, Y1.hB, Y1.tab⟩
  have hl1 : l1.length ≤ 100 := by
    have := Lib.itoa_length_le ms m0 m1
    have h9 : S1.length ≤ 30 := by decide
    rw [e1]
    simp only [List.length_append]
    omega
  have E1 : Hid (l1 = S1 ++ Lib.itoa ms) := e1
  have d1 := T1.cell c6 hbB
  clear e1 X1 Y1 T0 
  go_wp2
  go_region_held3 (fun w' => w'.cell? ⟨w.heap.size, 6, none⟩ = some (.slice la ln lc)) (first | go_keep | exact Txt.cell ‹_› c6 hbB)
    (first | (refine step_append_str (by rfl) (.tmp 13) _ (by rfl) (w.heap.size + 1) W1 v1 l1 _ (by rfl) (by rfl) (by omega) (by decide) T1.drew ?_; intro u2 x2 X2) | (go_at_call 12; refine (app_int (w.heap.size + 1) W1 x2 u2 _ (ln : Int) (by omega) (by omega) (by rw [List.length_append]; refine Nat.le_trans (Nat.add_le_add_left (show _ ≤ 100 by decide) _) (by omega)) X2).mono ?_; rintro e y2 ⟨v2, rfl, Y2⟩))
  obtain ⟨l2, e2⟩ : ∃ l2, l2 = l1 ++ S2 ++ Lib.itoa (ln : Int) := ⟨_, rfl⟩
  have T2 : Txt (w.heap.size + 1) W1 y2 v2 l2 := by rw [e2]; exact ⟨Y2.own, Y2.bel, Y2.hB, Y2.tab⟩
  have hl2 : l2.length ≤ 200 := by
    have := Lib.itoa_length_le (ln : Int) (by omega) (by omega)
    have h9 : S2.length ≤ 30 := by decide
    rw [e2]
    simp only [List.length_append]
    omega
  have E2 : Hid (l2 = l1 ++ S2 ++ Lib.itoa (ln : Int)) := e2
  have d2 := T2.cell c1 hbB
  clear e2 X2 Y2 T1 d1
  go_wp2
  go_region_held3 (fun w' => w'.cell? ⟨w.heap.size, 1, none⟩ = some (.int .i64 i1)) (first | go_keep | exact Txt.cell ‹_› c1 hbB)
    (first | (refine step_append_str (by rfl) (.tmp 19) _ (by rfl) (w.heap.size + 1) W1 v2 l2 _ (by rfl) (by rfl) (by omega) (by decide) T2.drew ?_; intro u3 x3 X3) | (go_at_call 12; refine (app_int (w.heap.size + 1) W1 x3 u3 _ i1 a1 b1 (by rw [List.length_append]; refine Nat.le_trans (Nat.add_le_add_left (show _ ≤ 100 by decide) _) (by omega)) X3).mono ?_; rintro e y3 ⟨v3, rfl, Y3⟩))
  obtain ⟨l3, e3⟩ : ∃ l3, l3 = l2 ++ S3 ++ Lib.itoa i1 := ⟨_, rfl⟩
  have T3 : Txt (w.heap.size + 1) W1 y3 v3 l3 := by rw [e3]; exact ⟨Y3.own, Y3.bel, Y3.hB, Y3.tab⟩
  have hl3 : l3.length ≤ 300 := by
    have := Lib.itoa_length_le i1 a1 b1
    have h9 : S3.length ≤ 30 := by decide
    rw [e3]
    simp only [List.length_append]
    omega
  have E3 : Hid (l3 = l2 ++ S3 ++ Lib.itoa i1) := e3
  have d3 := T3.cell c2 hbB
  clear e3 X3 Y3 T2 d2
  go_wp2
  go_region_held3 (fun w' => w'.cell? ⟨w.heap.size, 2, none⟩ = some (.int .i64 i2)) (first | go_keep | exact Txt.cell ‹_› c2 hbB)
    (first | (refine step_append_str (by rfl) (.tmp 24) _ (by rfl) (w.heap.size + 1) W1 v3 l3 _ (by rfl) (by rfl) (by omega) (by decide) T3.drew ?_; intro u4 x4 X4) | (go_at_call 12; refine (app_int (w.heap.size + 1) W1 x4 u4 _ i2 a2 b2 (by rw [List.length_append]; refine Nat.le_trans (Nat.add_le_add_left (show _ ≤ 100 by decide) _) (by omega)) X4).mono ?_; rintro e y4 ⟨v4, rfl, Y4⟩))
  obtain ⟨l4, e4⟩ : ∃ l4, l4 = l3 ++ S4 ++ Lib.itoa i2 := ⟨_, rfl⟩
  have T4 : Txt (w.heap.size + 1) W1 y4 v4 l4 := by rw [e4]; exact ⟨Y4.own, Y4.bel, Y4.hB, Y4.tab⟩
  have hl4 : l4.length ≤ 400 := by
    have := Lib.itoa_length_le i2 a2 b2
    have h9 : S4.length ≤ 30 := by decide
    rw [e4]
    simp only [List.length_append]
    omega
  have E4 : Hid (l4 = l3 ++ S4 ++ Lib.itoa i2) := e4
  have d4 := T4.cell c3 hbB
  clear e4 X4 Y4 T3 d3
  go_wp2
  go_region_held3 (fun w' => w'.cell? ⟨w.heap.size, 3, none⟩ = some (.int .i64 i3)) (first | go_keep | exact Txt.cell ‹_› c3 hbB)
    (first | (refine step_append_str (by rfl) (.tmp 29) _ (by rfl) (w.heap.size + 1) W1 v4 l4 _ (by rfl) (by rfl) (by omega) (by decide) T4.drew ?_; intro u5 x5 X5) | (go_at_call 12; refine (app_int (w.heap.size + 1) W1 x5 u5 _ i3 a3 b3 (by rw [List.length_append]; refine Nat.le_trans (Nat.add_le_add_left (show _ ≤ 100 by decide) _) (by omega)) X5).mono ?_; rintro e y5 ⟨v5, rfl, Y5⟩))
  obtain ⟨l5, e5⟩ : ∃ l5, l5 = l4 ++ S5 ++ Lib.itoa i3 := ⟨_, rfl⟩
  have T5 : Txt (w.heap.size + 1) W1 y5 v5 l5 := by rw [e5]; exact ⟨Y5.own, Y5.bel, Y5.hB, Y5.tab⟩
  have hl5 : l5.length ≤ 500 := by
    have := Lib.itoa_length_le i3 a3 b3
    have h9 : S5.length ≤ 30 := by decide
    rw [e5]
    simp only [List.length_append]
    omega
  have E5 : Hid (l5 = l4 ++ S5 ++ Lib.itoa i3) := e5
  have d5 := T5.cell c4 hbB
  clear e5 X5 Y5 T4 d4
  go_wp2
  go_region_held3 (fun w' => w'.cell? ⟨w.heap.size, 4, none⟩ = some (.int .i64 i4)) (first | go_keep | exact Txt.cell ‹_› c4 hbB)
    (first | (refine step_append_str (by rfl) (.tmp 34) _ (by rfl) (w.heap.size + 1) W1 v5 l5 _ (by rfl) (by rfl) (by omega) (by decide) T5.drew ?_; intro u6 x6 X6) | (go_at_call 12; refine (app_int (w.heap.size + 1) W1 x6 u6 _ i4 a4 b4 (by rw [List.length_append]; refine Nat.le_trans (Nat.add_le_add_left (show _ ≤ 100 by decide) _) (by omega)) X6).mono ?_; rintro e y6 ⟨v6, rfl, Y6⟩))
  obtain ⟨l6, e6⟩ : ∃ l6, l6 = l5 ++ S6 ++ Lib.itoa i4 := ⟨_, rfl⟩
  have T6 : Txt (w.heap.size + 1) W1 y6 v6 l6 := by rw [e6]; exact ⟨Y6.own, Y6.bel, Y6.hB, Y6.tab⟩
  have hl6 : l6.length ≤ 600 := by
    have := Lib.itoa_length_le i4 a4 b4
    have h9 : S6.length ≤ 30 := by decide
    rw [e6]
    simp only [List.length_append]
    omega
  have E6 : Hid (l6 = l5 ++ S6 ++ Lib.itoa i4) := e6
  have d6 := T6.cell c5 hbB
  clear e6 X6 Y6 T5 d5
  go_wp2
  go_region_held3 (fun w' => w'.cell? ⟨w.heap.size, 5, none⟩ = some (.int .i64 i5)) (first | go_keep | exact Txt.cell ‹_› c5 hbB)
    (first | (refine step_append_str (by rfl) (.tmp 39) _ (by rfl) (w.heap.size + 1) W1 v6 l6 _ (by rfl) (by rfl) (by omega) (by decide) T6.drew ?_; intro u7 x7 X7) | (go_at_call 12; refine (app_int (w.heap.size + 1) W1 x7 u7 _ i5 a5 b5 (by rw [List.length_append]; refine Nat.le_trans (Nat.add_le_add_left (show _ ≤ 100 by decide) _) (by omega)) X7).mono ?_; rintro e y7 ⟨v7, rfl, Y7⟩))
  obtain ⟨l7, e7⟩ : ∃ l7, l7 = l6 ++ S7 ++ Lib.itoa i5 := ⟨_, rfl⟩
  have T7 : Txt (w.heap.size + 1) W1 y7 v7 l7 := by rw [e7]; exact ⟨Y7.own, Y7.bel, Y7.hB, Y7.tab⟩
  have hl7 : l7.length ≤ 700 := by
    have := Lib.itoa_length_le i5 a5 b5
    have h9 : S7.length ≤ 30 := by decide
    rw [e7]
    simp only [List.length_append]
    omega
  have E7 : Hid (l7 = l6 ++ S7 ++ Lib.itoa i5) := e7
  have d7 := T7.cell c6 hbB
  clear e7 X7 Y7 T6 d6
  have HLA : Hid (la = some ⟨qb, 0, none⟩ ∨ ln = 0) := hla
  clear hla
  go_wp2_with (refine wpList_append_str rfl (.tmp 44) _ rfl (w.heap.size + 1) W1 v7 l7 _ rfl rfl (by omega) (by decide) T7 ?_; intro v8 y8 Y8; have d8 := Y8.cell c6 hbB)
  obtain ⟨l8, e8⟩ : ∃ l8, l8 = l7 ++ [32, 91] := ⟨_, rfl⟩
  have T8 : Txt (w.heap.size + 1) W1 y8 v8 l8 := by rw [e8]; exact Y8
  have hl8 : l8.length ≤ 800 := by rw [e8]; simp; omega
  have E8 : Hid (l8 = l7 ++ [32, 91]) := e8
  have TT8 : Hid (Txt (w.heap.size + 1) W1 y8 v8 l8) := T8
  clear e8 Y8 T7 T8 d7 d8
  go_loopw [1, 49] (fun bv j wr => ∃ (k : Nat) (l : List UInt8), k ≤ ln ∧ j = .int .i64 k ∧ Hid (l = l8 ++ quRow zs k) ∧ l.length ≤ 800 + 22 * k ∧ Hid (Txt (w.heap.size + 1) W1 wr bv l)) (fun _ j _ => ln - (intOf j).toNat)
  case atStart => exact ⟨0, l8, Nat.zero_le _, rfl, by unfold Hid quRow; simp, by omega, TT8⟩
  case round =>
    obtain ⟨k, l, hk, rfl, EL, hll, TL⟩ := hrel
    by_cases hlt : k < ln
    · have hla' := HLA.out
      rcases hla' with hla' | hla'
      · subst hla'
        obtain ⟨hqb, hqc, hq1, hq2⟩ := HQ.out k hlt
        obtain ⟨z, ez⟩ : ∃ z, z = zs.getD k 0 := ⟨_, rfl⟩
        rw [← ez] at hqc hq1 hq2
        have cz : wr.cell? ⟨qb, k, none⟩ = some (.int .i64 z) := TL.out.cell ((hbl.cell (p := ⟨qb, k, none⟩) hqb).trans hqc) (by omega)
        have HZ : Hid (z = zs.getD k 0) := ez
        have hit := Lib.itoa_length_le z hq1 hq2
        clear ez hqc
        by_cases hk0 : k = 0
        · subst hk0
          go_wp2_with (first
            | (go_at_call 12; refine (app_int (w.heap.size + 1) W1 _ _ l z hq1 hq2 (by omega) TL.out).mono ?_; rintro e y9 ⟨v9, rfl, Y9⟩)
            | fail)
          go_roundw
          case rel => exact ⟨1, l ++ Lib.itoa z, by omega, by go_num, by unfold Hid; rw [EL.out, HZ.out]; simp [quRow], by rw [List.length_append]; omega, Y9⟩
          case measure => simp [intOf]; omega
        · have hkp : 0 < k := by omega
          go_wp2_with (first
            | (at_builtin; refine wpList_append_byte rfl (.tmp 56) (.tmp 57) rfl (w.heap.size + 1) W1 _ l 32 32 rfl rfl rfl (by omega) TL.out ?_; intro v9 y9 Y9)
            | (go_at_call 12; refine (app_int (w.heap.size + 1) W1 _ _ _ z hq1 hq2 (by rw [List.length_append]; simp; omega) Y9).mono ?_; rintro e y10 ⟨v10, rfl, Y10⟩)
            | fail)
          go_roundw
          case rel => exact ⟨k + 1, l ++ [32] ++ Lib.itoa z, by omega, by go_num, by unfold Hid; rw [EL.out, HZ.out]; simp [quRow, hkp], by simp only [List.length_append, List.length_cons, List.length_nil]; omega, Y10⟩
          case measure => simp [intOf]; omega
      · omega
    · have ek : k = ln := by omega
      subst ek
      go_wp2_with (at_builtin; refine wpList_append_byte rfl (.tmp 63) (.tmp 64) rfl (w.heap.size + 1) W1 _ l 93 93 rfl rfl rfl (by omega) TL.out ?_; intro v9 y9 Y9)
      go_ret
      refine ⟨v9, rfl, ⟨?_, Below.refl _ _, Y9.hB, Y9.tab⟩, hbl.trans (Y9.bel.mono (by omega))⟩
      have e9 : l ++ [93] = head ms k i1 i2 i3 i4 i5 ++ [32, 91] ++ quRow zs k ++ [93] := by
        rw [EL.out, E8.out, E7.out, E6.out, E5.out, E4.out, E3.out, E2.out, E1.out]
        rfl
      rw [← e9]
      exact Y9.own
end Go.Proofs.Qxb6615494aDoor
