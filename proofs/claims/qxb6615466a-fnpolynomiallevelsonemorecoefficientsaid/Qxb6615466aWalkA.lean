import Derived.Test.Qxb6615466aLeast
import Derived.Laws.CopyOwn
namespace Go.Proofs.Qxb6615466a
open Go.RowKit
set_option linter.unusedVariables false

/-- The kit has this rule for integers, bools, pointers, slices, strings, interface values, maps; not for floats. -/
theorem run_store_float {P : Program} {w : World} {a : Addr} {m : Mode} (k : FloatKind) (b : Nat) : (store a (.float k b) m).run P w = stored P w a (.float k b) m := run_store P w a _ m rfl
attribute [local go_sem] run_store_float

theorem info22 : (Try.prog.info? 22).map (fun i => (i.zero, i.size, i.bytes)) = some (some (.float .f64 0), 1, 8) := by kernel_rfl

theorem bytes7_yes (x0 x1 n c : Nat) (a : Option Addr) (w : World) (h : n ≤ 1048576) :
    Calls Try.prog 7 #[.agg #[.float .f64 x0, .float .f64 x1], .slice a n c] w fun e w' => e = .returned (.bool true) ∧ Below w.heap.size w w' := by
  go_enter Try.func7, Try.ntmps7
  go_wp2
  go_ret
  exact ⟨rfl, (Below.refl _ _).alloc (Nat.le_refl _) _⟩

set_option maxHeartbeats 400000 in
theorem walkA_big (x0 x1 n c : Nat) (a : Option Addr) (w : World) (hm : n ≤ maxLen) (h : 131072 < n) :
    Calls Try.prog 3 #[.agg #[.float .f64 x0, .float .f64 x1], .slice a n c] w fun e w' => e = .returned (.bool true) ∧ Below w.heap.size w w' := by
  unfold maxLen at hm
  have h1 : (131072 : Int) < (n : Int) := by omega
  by_cases hb : 1048576 < n
  · go_enter Try.func3, Try.ntmps3
    go_wp2
    go_ret
    exact ⟨rfl, ((Below.refl _ _).alloc (Nat.le_refl _) _).alloc (by simp) _⟩
  · go_enter Try.func3, Try.ntmps3
    go_wp2
    go_ret
    exact ⟨rfl, ((Below.refl _ _).alloc (Nat.le_refl _) _).alloc (by simp) _⟩

theorem ownsRow_block {w : World} {base : Nat} {e : TypeId} {g n cap : Nat} {xs : List Value} (h : w.ownsRow base e 1 (.slice (some ⟨g, 0, none⟩) n cap) n xs) :
    ∃ cur : List Value, w.heap[g]? = some (.cells cur.toArray e (0, 0)) ∧ n ≤ cap ∧ cap ≤ maxLen ∧ cur.length = cap ∧ cur.take n = xs ∧ base ≤ g := by
  obtain ⟨_, h | ⟨g', cap', cur, hv, hb, hh, h1, h2, h3, h4⟩⟩ := h
  · simp at h
  · simp at hv
    obtain ⟨rfl, rfl⟩ := hv
    exact ⟨cur.toList, by simpa using hh, h1, h2, by simpa using h3, by simpa using h4, hb⟩

/-- The interval's box, laid first, still holds the two numbers. -/
def Box (w W : World) (x0 x1 : Nat) : Prop := W.heap[w.heap.size]? = some (.cells #[.float .f64 x0, .float .f64 x1] 23 (0, 0))

theorem Box.first (w W : World) (x0 x1 : Nat) (h : Below (w.alloc (.cells #[.float .f64 x0, .float .f64 x1] 23)).heap.size (w.alloc (.cells #[.float .f64 x0, .float .f64 x1] 23)) W) : Box w W x0 x1 := by
  unfold Box
  rw [h.block w.heap.size (by simp)]
  exact heap_alloc_new w _
theorem Box.later {w W W' : World} {x0 x1 B : Nat} (h : Box w W x0 x1) (hb : Below B W W') (hB : w.heap.size < B) : Box w W' x0 x1 := (hb.block _ hB).trans h
theorem Box.c0 {w W : World} {x0 x1 : Nat} (h : Box w W x0 x1) : W.cell? ⟨w.heap.size, 0, none⟩ = some (.float .f64 x0) := by unfold Box at h; simp [World.cell?, h]
theorem Box.c1 {w W : World} {x0 x1 : Nat} (h : Box w W x0 x1) : W.cell? ⟨w.heap.size, 1, none⟩ = some (.float .f64 x1) := by unfold Box at h; simp [World.cell?, h]
theorem Box.lt {w W : World} {x0 x1 : Nat} (h : Box w W x0 x1) : w.heap.size < W.heap.size := lt_of_block h

theorem lowly (w W : World) (x0 x1 : Nat) (h : Below (w.alloc (.cells #[.float .f64 x0, .float .f64 x1] 23)).heap.size (w.alloc (.cells #[.float .f64 x0, .float .f64 x1] 23)) W) : Below w.heap.size w W :=
  ((Below.refl _ _).alloc (Nat.le_refl _) _).trans (h.mono (by simp))

theorem copied_get {cur cs : List Value} {n : Nat} (hl : cs.length = n) (k : Nat) (hk : k < n) (hf : ∀ v ∈ cs, ∃ b, v = .float .f64 b) : ∃ b, (splice cur 0 cs)[k]? = some (.float .f64 b) := by
  unfold splice
  rw [List.take_zero, List.nil_append, List.getElem?_append_left (by omega)]
  have hk' : k < cs.length := by omega
  obtain ⟨b, hb⟩ := hf cs[k] (List.getElem_mem hk')
  exact ⟨b, by rw [List.getElem?_eq_getElem hk', hb]⟩

theorem cell_row {W : World} {g k : Nat} {l : List Value} {v : Value} (h : W.heap[g]? = some (.cells l.toArray 22 (0, 0))) (hv : l[k]? = some v) : W.cell? ⟨g, k, none⟩ = some v := by
  simp [World.cell?, h, hv]
theorem free_row {W : World} {g k : Nat} {l : List Value} (h : W.heap[g]? = some (.cells l.toArray 22 (0, 0))) : W.frozen? ⟨g, k, none⟩ = false := by
  simp [World.frozen?, h]
theorem set_row {W : World} {g k : Nat} {l : List Value} (h : W.heap[g]? = some (.cells l.toArray 22 (0, 0))) (v : Value) : (W.setCell ⟨g, k, none⟩ v).heap[g]? = some (.cells (l.set k v).toArray 22 (0, 0)) := by
  rw [setCell_eq_setRow W g k l.toArray 22 (0, 0) v h]
  rw [setRow_heap W g l.toArray _ 22 (0, 0) h]
  simp

theorem lev_le (n : Nat) (h : 2 ≤ n) (hb : n < 18446744073709551616) : lev n ≤ 64 := by
  rw [lev_pos n h hb]
  exact (lt_pow_of_bitLen 64 (n - 1) (by omega)).1 (by omega)

set_option maxHeartbeats 2000000 in
theorem walkA_row (x0 x1 n cap : Nat) (x : Addr) (cs : List Value) (w : World) (HCL : Hid (cs.length = n)) (HSR : Hid (∀ j v, cs[j]? = some v → w.cell? (x.add j) = some v)) (HFL : Hid (∀ v ∈ cs, ∃ b, v = .float .f64 b))
    (hn : n ≤ 131072) (hlc : n ≤ cap) (hcap : cap ≤ maxLen) :
    Calls Try.prog 3 #[.agg #[.float .f64 x0, .float .f64 x1], .slice (some x) n cap] w fun e w' => e = .returned (.bool true) ∧ Below w.heap.size w w' := by
  unfold maxLen at hcap
  obtain ⟨i22, hi22, hz0, hz1, hz2⟩ := info_parts info22
  have HC1 : Hid (∀ v ∈ cs, v.oneCell' = true) := fun v hv => by obtain ⟨b, rfl⟩ := HFL.out v hv; rfl
  go_enter Try.func3, Try.ntmps3
  go_wp2_with (first
    | (go_at_call 7; refine (bytes7_yes x0 x1 n cap (some x) _ (by omega)).mono ?_; rintro e W1 ⟨rfl, hb1⟩; have X1 := Box.first w W1 x0 x1 hb1; have L1 := lowly w W1 x0 x1 hb1; clear hb1)
    | (at_make; refine wpList_make_full _ rfl (.tmp 21) (.tmp 21) 24 rfl W1.heap.size 22 i22 (.float .f64 0) 1 Try.underlying24 hi22 hz0 hz1 .i64 .i64 n n n rfl rfl rfl rfl (by rw [hz2]; omega) (by unfold maxLen; omega) (Nat.le_refl _) ?_; intro w1 hown1 hgrow1)
    | (obtain ⟨cur1, q1, -, -, q2, -, -⟩ := ownsRow_block hown1; refine wpList_copy_splice rfl (.tmp 23) (.tmp 24) 24 24 rfl 22 Try.underlying24 (by kernel_rfl) (some ⟨W1.heap.size, 0, none⟩) (some x) n n n cap rfl rfl W1.heap.size 0 cur1 22 q1 cs (by rw [HCL.out]; exact (Nat.min_self _).symm) (fun _ => ⟨rfl, x, rfl, fun j v hj => hgrow1.cell ((L1.cell (World.block_lt_of_cell? w _ (HSR.out j v hj))).trans (HSR.out j v hj)) (by simp)⟩) (by rw [HCL.out, q2]; omega) HC1.out W1.heap.size W1 ((Below.refl _ _).grown hgrow1 (Nat.le_refl _) (by simp)) (Nat.le_refl _) ?_; intro w2 HG2 hb2)
    | (at_make; refine wpList_make_full _ rfl (.tmp 30) (.tmp 30) 24 rfl w2.heap.size 22 i22 (.float .f64 0) 1 Try.underlying24 hi22 hz0 hz1 .i64 .i64 (2 * (n : Int)) (2 * (n : Int)) (2 * n) rfl rfl (by omega) (by omega) (by rw [hz2]; omega) (by unfold maxLen; omega) (Nat.le_refl _) ?_; intro w3 hown3 hgrow3)
    | fail)
  have h12 : W1.heap.size < w2.heap.size := lt_of_block HG2.out
  have HG1 : Hid (w3.heap[W1.heap.size]? = some (.cells (splice cur1 0 cs).toArray 22 (0, 0))) := (hgrow3.block _ h12 (by simp)).trans HG2.out
  obtain ⟨cur2, q3, -, -, q4, -, -⟩ := ownsRow_block hown3
  have HQ3 : Hid (w3.heap[w2.heap.size]? = some (.cells cur2.toArray 22 (0, 0))) := q3
  have HQ4 : Hid (cur2.length = 2 * n) := q4
  have B3 : Hid (Below W1.heap.size W1 w3) := hb2.grown hgrow3 hb2.size (by simp)
  have X3 : Hid (Box w w3 x0 x1) := X1.later B3.out X1.lt
  have L3 : Hid (Below w.heap.size w w3) := L1.trans (B3.out.mono (Nat.le_of_lt X1.lt))
  have hwG : w.heap.size < w2.heap.size := by have := X1.lt; omega
  clear hown1 hgrow1 HG2 hb2 hown3 hgrow3 q1 q2 q3 q4 X1 L1 B3
  go_loopw [8] (fun i wr => ∃ k : Nat, k ≤ n ∧ i = .int .i64 k ∧ Hid (∃ cur : List Value, wr.heap[w2.heap.size]? = some (.cells cur.toArray 22 (0, 0)) ∧ cur.length = 2 * n) ∧ Hid (Below w2.heap.size w3 wr)) (fun i _ => n - (intOf i).toNat)
  case atStart => exact ⟨0, Nat.zero_le _, rfl, ⟨cur2, HQ3.out, HQ4.out⟩, Below.refl _ _⟩
  case round =>
    obtain ⟨k, hk, rfl, HR, HB⟩ := hrel
    by_cases hlt : k < n
    · obtain ⟨cur, r1, r2⟩ := HR.out
      obtain ⟨b, hb⟩ := copied_get (cur := cur1) HCL.out k hlt HFL.out
      have c1 : wr.cell? ⟨W1.heap.size, k, none⟩ = some (.float .f64 b) := cell_row ((HB.out.block _ h12).trans HG1.out) hb
      obtain ⟨v2, e2⟩ : ∃ v2, cur[k]? = some v2 := ⟨_, List.getElem?_eq_getElem (by omega)⟩
      obtain ⟨v3, e3⟩ : ∃ v3, cur[n + k]? = some v3 := ⟨_, List.getElem?_eq_getElem (by omega)⟩
      have c2 : wr.cell? ⟨w2.heap.size, k, none⟩ = some v2 := cell_row r1 e2
      have f2 : wr.frozen? ⟨w2.heap.size, k, none⟩ = false := free_row r1
      have R1 : Hid (wr.heap[w2.heap.size]? = some (.cells cur.toArray 22 (0, 0))) := r1
      have R2 : Hid (cur.length = 2 * n) := r2
      have c3 : ∀ v, (wr.setCell ⟨w2.heap.size, k, none⟩ v).cell? ⟨w2.heap.size, n + k, none⟩ = some v3 := fun v => cell_row (set_row r1 v) (by rw [List.getElem?_set_ne (by omega)]; exact e3)
      have f3 : ∀ v, (wr.setCell ⟨w2.heap.size, k, none⟩ v).frozen? ⟨w2.heap.size, n + k, none⟩ = false := fun v => free_row (set_row r1 v)
      clear hb r1 r2 e2 e3
      go_wp2
      go_roundw
      case rel => exact ⟨k + 1, by omega, by go_num, ⟨_, set_row (set_row R1.out _) _, by have := R2.out; simp; omega⟩, (HB.out.setCell (Nat.le_refl _) _).setCell (Nat.le_refl _) _⟩
      case measure => simp [intOf]; omega
    · have XR : Box w wr x0 x1 := X3.out.later HB.out hwG
      have c0 := XR.c0
      have c1 := XR.c1
      have HXR : Hid (Box w wr x0 x1) := XR
      have LR : Hid (Below w.heap.size w wr) := L3.out.trans (HB.out.mono (Nat.le_of_lt hwG))
      clear XR HR HB
      go_wp2_with fail
      rcases (show n = 0 ∨ n = 1 ∨ 2 ≤ n by omega) with hz | hz | hz
      · have H1 : Hid (lev n = 64) := by rw [hz]; exact lev_zero
        have H2 : Hid (lev (2 * n) = 64) := by rw [hz]; exact lev_zero
        have hq : ((n : Int) == 0) = true := by rw [hz]; rfl
        clear hz
        refine (poly_any x0 x1 n n (some ⟨W1.heap.size, 0, none⟩) wr (by omega) (64) H1).mono ?_
        rintro e w5 ⟨rfl, hb5⟩
        have X5 : Hid (Box w w5 x0 x1) := HXR.out.later hb5 HXR.out.lt
        have d0 := X5.out.c0
        have d1 := X5.out.c1
        have L5 : Hid (Below w.heap.size w w5) := LR.out.trans (hb5.mono LR.out.size)
        clear hb5 c0 c1
        go_wp2_with fail
        refine (poly_any x0 x1 (2 * n) (2 * n) (some ⟨w2.heap.size, 0, none⟩) w5 (by omega) (64) H2).mono ?_
        rintro e w6 ⟨rfl, hb6⟩
        have L6 : Below w.heap.size w w6 := L5.out.trans (hb6.mono L5.out.size)
        clear hb6 d0 d1
        go_wp2_with (go_at_call 9; refine (wordBits_any _).mono ?_; rintro e w7 ⟨rfl, rfl⟩)
        go_ret
        exact ⟨rfl, L6⟩
      · have H1 : Hid (lev n = 1) := by rw [hz]; exact lev_one
        have H2 : Hid (lev (2 * n) = 1) := by rw [hz]; exact lev_two
        have hq : ((n : Int) == 0) = false := by rw [hz]; rfl
        have hq1 : ((n : Int) == 1) = true := by rw [hz]; rfl
        have hge : 1 ≤ n := by omega
        clear hz
        refine (poly_any x0 x1 n n (some ⟨W1.heap.size, 0, none⟩) wr (by omega) (1) H1).mono ?_
        rintro e w5 ⟨rfl, hb5⟩
        have X5 : Hid (Box w w5 x0 x1) := HXR.out.later hb5 HXR.out.lt
        have d0 := X5.out.c0
        have d1 := X5.out.c1
        have L5 : Hid (Below w.heap.size w w5) := LR.out.trans (hb5.mono LR.out.size)
        clear hb5 c0 c1
        go_wp2_with fail
        refine (poly_any x0 x1 (2 * n) (2 * n) (some ⟨w2.heap.size, 0, none⟩) w5 (by omega) (1) H2).mono ?_
        rintro e w6 ⟨rfl, hb6⟩
        have L6 : Below w.heap.size w w6 := L5.out.trans (hb6.mono L5.out.size)
        clear hb6 d0 d1
        go_wp2_with (go_at_call 10; refine (least_any n _ hge (by omega) 1 H1).mono ?_; rintro e w7 ⟨rfl, rfl⟩)
        go_ret
        exact ⟨rfl, L6⟩
      · obtain ⟨La, eLa⟩ : ∃ La, lev n = La := ⟨_, rfl⟩
        have HL64 : Hid (La ≤ 64) := by rw [← eLa]; exact lev_le n hz (by omega)
        have H1 : Hid (lev n = La) := eLa
        have H2 : Hid (lev (2 * n) = La + 1) := (lev_double n hz (by omega)).trans (by rw [eLa])
        have hq : ((n : Int) == 0) = false := beq_false_of_ne (by omega)
        have hq1 : ((n : Int) == 1) = false := beq_false_of_ne (by omega)
        have hge : 1 ≤ n := by omega
        have hL64 : La ≤ 64 := HL64.out
        clear eLa
        refine (poly_any x0 x1 n n (some ⟨W1.heap.size, 0, none⟩) wr (by omega) (La) H1).mono ?_
        rintro e w5 ⟨rfl, hb5⟩
        have X5 : Hid (Box w w5 x0 x1) := HXR.out.later hb5 HXR.out.lt
        have d0 := X5.out.c0
        have d1 := X5.out.c1
        have L5 : Hid (Below w.heap.size w w5) := LR.out.trans (hb5.mono LR.out.size)
        clear hb5 c0 c1
        go_wp2_with fail
        refine (poly_any x0 x1 (2 * n) (2 * n) (some ⟨w2.heap.size, 0, none⟩) w5 (by omega) (La + 1) H2).mono ?_
        rintro e w6 ⟨rfl, hb6⟩
        have L6 : Below w.heap.size w w6 := L5.out.trans (hb6.mono L5.out.size)
        clear hb6 d0 d1
        go_wp2_with (go_at_call 10; refine (least_any n _ hge (by omega) La H1).mono ?_; rintro e w7 ⟨rfl, rfl⟩)
        go_ret
        exact ⟨rfl, L6⟩

set_option maxHeartbeats 1000000 in
theorem walkA_nil (x0 x1 : Nat) (w : World) :
    Calls Try.prog 3 #[.agg #[.float .f64 x0, .float .f64 x1], .slice none 0 0] w fun e w' => e = .returned (.bool true) ∧ Below w.heap.size w w' := by
  obtain ⟨i22, hi22, hz0, hz1, hz2⟩ := info_parts info22
  go_enter Try.func3, Try.ntmps3
  go_wp2_with (first
    | (go_at_call 7; refine (bytes7_yes x0 x1 0 0 none _ (by omega)).mono ?_; rintro e W1 ⟨rfl, hb1⟩; have X1 := Box.first w W1 x0 x1 hb1; have L1 := lowly w W1 x0 x1 hb1; clear hb1)
    | (at_make; refine wpList_make_full _ rfl (.tmp 30) (.tmp 30) 24 rfl W1.heap.size 22 i22 (.float .f64 0) 1 Try.underlying24 hi22 hz0 hz1 .i64 .i64 0 0 0 rfl rfl (by omega) (by omega) (by rw [hz2]; omega) (by unfold maxLen; omega) (Nat.le_refl _) ?_; intro wr hown3 hgrow3)
    | fail)
  have B3 : Below W1.heap.size W1 wr := (Below.refl _ _).grown hgrow3 (Nat.le_refl _) (by simp)
  have HXR : Hid (Box w wr x0 x1) := X1.later B3 X1.lt
  have LR : Hid (Below w.heap.size w wr) := L1.trans (B3.mono (Nat.le_of_lt X1.lt))
  have c0 := HXR.out.c0
  have c1 := HXR.out.c1
  clear hown3 hgrow3 X1 L1 B3
  refine wp_loop_rounds 1 ?_
  rw [rounds_succ]
  go_wp2_with fail
  refine (poly_any x0 x1 0 0 none wr (by omega) 64 lev_zero).mono ?_
  rintro e w5 ⟨rfl, hb5⟩
  have X5 : Hid (Box w w5 x0 x1) := HXR.out.later hb5 HXR.out.lt
  have d0 := X5.out.c0
  have d1 := X5.out.c1
  have L5 : Hid (Below w.heap.size w w5) := LR.out.trans (hb5.mono LR.out.size)
  clear hb5 c0 c1
  go_wp2_with fail
  refine (poly_any x0 x1 0 0 (some ⟨W1.heap.size, 0, none⟩) w5 (by omega) 64 lev_zero).mono ?_
  rintro e w6 ⟨rfl, hb6⟩
  have L6 : Below w.heap.size w w6 := L5.out.trans (hb6.mono L5.out.size)
  clear hb6 d0 d1
  go_wp2_with (go_at_call 9; refine (wordBits_any _).mono ?_; rintro e w7 ⟨rfl, rfl⟩)
  go_ret
  exact ⟨rfl, L6⟩
end Go.Proofs.Qxb6615466a
