import Derived.Test.Qxb6614690aDoorLeaf
import Derived.Laws.CopyOwn
import Derived.Deep.RegionHeld3
namespace Go.Proofs.Qxb6614690aDoor
open Go.RowKit
set_option linter.unusedVariables false

/-- Of the blocks that were there only those of S may have turned; new blocks may have come. -/
structure Only (S : List Nat) (w w' : World) : Prop where
  os : w'.os = w.os
  tape : w'.tape = w.tape
  output : w'.output = w.output
  size : w.heap.size ≤ w'.heap.size
  block : ∀ k, k < w.heap.size → k ∉ S → w'.heap[k]? = w.heap[k]?

theorem Only.refl (S : List Nat) (w : World) : Only S w w := ⟨rfl, rfl, rfl, Nat.le_refl _, fun _ _ _ => rfl⟩
theorem Only.trans {S : List Nat} {a b c : World} (h : Only S a b) (k : Only S b c) : Only S a c :=
  ⟨k.os.trans h.os, k.tape.trans h.tape, k.output.trans h.output, Nat.le_trans h.size k.size, fun i hi hn => (k.block i (Nat.lt_of_lt_of_le hi h.size) hn).trans (h.block i hi hn)⟩
theorem Only.mono {S T : List Nat} {a b : World} (h : Only S a b) (hs : ∀ x ∈ S, x ∈ T) : Only T a b :=
  ⟨h.os, h.tape, h.output, h.size, fun i hi hn => h.block i hi (fun hm => hn (hs i hm))⟩
theorem Only.drewN {S : List Nat} {a b : World} (h : Only S a b) (n : Nat) : Only S a (b.drewN n) := ⟨h.os, h.tape, h.output, h.size, h.block⟩
theorem Only.drew {S : List Nat} {a b : World} (h : Only S a b) : Only S a b.drew := ⟨h.os, h.tape, h.output, h.size, h.block⟩
theorem Only.alloc {S : List Nat} {a b : World} (h : Only S a b) (o : Obj) : Only S a (b.alloc o) :=
  ⟨h.os, h.tape, h.output, Nat.le_trans h.size (by simp), fun i hi hn => (Below.heap_alloc b o i (Nat.lt_of_lt_of_le hi h.size)).trans (h.block i hi hn)⟩
theorem Only.setCell {S : List Nat} {a b : World} (h : Only S a b) {p : Addr} (hp : p.block ∈ S) (u : Value) : Only S a (b.setCell p u) :=
  ⟨h.os, h.tape, h.output, Nat.le_trans h.size (by simp [World.setCell]), fun i hi hn => (Below.heap_setCell b p u i (fun e => hn (e ▸ hp))).trans (h.block i hi hn)⟩
theorem Only.setRow {S : List Nat} {a b : World} (h : Only S a b) {g : Nat} (hp : g ∈ S) (cs : Array Value) : Only S a (b.setRow g cs) :=
  ⟨h.os, h.tape, h.output, Nat.le_trans h.size (by simp), fun i hi hn => (setRow_other b g i cs (fun e => hn (e ▸ hp))).trans (h.block i hi hn)⟩
theorem Only.grown {S : List Nat} {a b c : World} {row : Option Nat} (h : Only S a b) (hg : b.grownBy c row) (hr : ∀ k, row = some k → k ∈ S ∨ a.heap.size ≤ k) : Only S a c :=
  ⟨hg.os.trans h.os, hg.tape.trans h.tape, hg.output.trans h.output, Nat.le_trans h.size hg.size, fun i hi hn => (hg.block i (Nat.lt_of_lt_of_le hi h.size) (fun e => by rcases hr i e.symm with h' | h'; exact hn h'; omega)).trans (h.block i hi hn)⟩
theorem Only.below {S : List Nat} {B : Nat} {a b : World} (h : Only S a b) (hB : B ≤ a.heap.size) (hS : ∀ x ∈ S, B ≤ x) : Below B a b :=
  ⟨h.os, h.tape, h.output, h.size, fun k hk => h.block k (by omega) (fun hm => by have := hS k hm; omega)⟩
theorem Only.bs {S : List Nat} {a b : World} {B o : Nat} {xs : List Int} (h : Only S a b) (hB : B ∉ S) (hx : Bs a B o xs) : Bs b B o xs := fun i hi => by
  have hc := hx i hi
  exact (World.cell?_of_block (h.block B (World.block_lt_of_cell? a _ hc) hB)).trans hc
theorem Only.at {S : List Nat} {a b : World} {k : Nat} {o : Obj} (h : Only S a b) (hk : a.heap[k]? = some o) (hn : k ∉ S) : b.heap[k]? = some o :=
  (h.block k (lt_of_block hk) hn).trans hk

theorem Only.cell {S : List Nat} {a b : World} {p : Addr} {v : Value} (h : Only S a b) (hc : a.cell? p = some v) (hn : p.block ∉ S) : b.cell? p = some v :=
  (World.cell?_of_block (h.block p.block (World.block_lt_of_cell? a p hc) hn)).trans hc

theorem heap_set_same {w : World} {g i : Nat} {cur : Array Value} {t : TypeId} {fr : Nat × Nat} (hg : w.heap[g]? = some (.cells cur t fr)) (v : Value) :
    (w.setCell ⟨g, i, none⟩ v).heap[g]? = some (.cells (cur.setIfInBounds i v) t fr) := by
  rw [setCell_eq_setRow w g i cur t fr v hg]; exact setRow_heap w g cur _ t fr hg
theorem heap_set_other {w : World} {g k i : Nat} (v : Value) (h : k ≠ g) : (w.setCell ⟨g, i, none⟩ v).heap[k]? = w.heap[k]? := Below.heap_setCell w ⟨g, i, none⟩ v k h

theorem bs_cells {w : World} {B o : Nat} {xs : List Int} (hx : Bs w B o xs) (i k : Nat) :
    ∀ j v, (((xs.drop i).take k).map (Value.int .u8))[j]? = some v → w.cell? ((⟨B, o + i, none⟩ : Addr).add j) = some v := by
  intro j v hj
  simp only [List.getElem?_map, List.getElem?_take, List.getElem?_drop] at hj
  have hadd : (⟨B, o + i, none⟩ : Addr).add j = ⟨B, o + i + j, none⟩ := by unfold Addr.add; split <;> simp_all
  rw [hadd]
  by_cases hjk : j < k
  · rw [if_pos hjk] at hj
    by_cases hl : i + j < xs.length
    · rw [List.getElem?_eq_getElem hl] at hj
      simp at hj
      subst hj
      have := hx (i + j) hl
      rw [Nat.add_assoc]
      rw [this]
      simp [List.getD_eq_getElem?_getD, List.getElem?_eq_getElem hl]
    · rw [List.getElem?_eq_none (by omega)] at hj
      simp at hj
  · rw [if_neg hjk] at hj
    simp at hj

/-- 'copy' as one step of a region that draws its order, the world written out by 'Only'. -/
theorem step_copy_only {P : Program} {ops : Array Oper} {o : Oper} {a : Act} {w : World} {K : Act → World → Prop} {Q : Exit → Act → World → Prop} {E : Prop} (hgd : o.guard = none) (d s : Operand) (dT sT : TypeId)
    (ho : o.op = .call { callee := .builtin .copy, args := #[d, s], argTypes := #[dT, sT] }) (elem : TypeId) (hu : P.underlying dT = some (.slice elem)) (hsz : (P.info? elem).map (·.size) = some 1)
    (g off dLen dCap : Nat) (ad : Addr) (sLen sCap : Nat) (hd : a.eval d = .slice (some ⟨g, off, none⟩) dLen dCap) (hs : a.eval s = .slice (some ad) sLen sCap)
    (cur : List Value) (t : TypeId) (hg : w.heap[g]? = some (.cells cur.toArray t (0, 0))) (cs : List Value) (k : Nat) (hk : cs.length = k) (hn : k = Nat.min sLen dLen)
    (hsrc : ∀ j v, cs[j]? = some v → w.cell? (ad.add j) = some v) (hfit : off + cs.length ≤ cur.length) (h1 : ∀ v ∈ cs, v.oneCell' = true)
    (h : ∀ w', Hid (w'.heap[g]? = some (.cells (splice cur off cs).toArray t (0, 0))) → Only [g] w w' → K (a.put o.dst (.int .i64 k)) w') :
    if Region.wanted o (yielded ops a.tmps) = true then Oper.wp P o a w K Q else E := by
  subst hk
  have hw : Region.wanted o (yielded ops a.tmps) = true := by simp [Region.wanted, hgd]
  rw [if_pos hw]
  have hrun := run_copy_row (P := P) w dT sT o.type elem g off dLen dCap ad sLen sCap cur.toArray t cs hu hsz hg hn hsrc (by simpa using hfit) h1
  unfold Oper.wp
  simp [execOp, ho, resolve, invoke, builtin, hd, hs, hrun, Result.andThen]
  exact h _ (show _ = _ by simpa [splice] using setRow_heap w g _ _ t _ hg) ((Only.refl _ _).setRow (by simp) _)

set_option maxHeartbeats 400000 in
/-- '(*bytes.Reader).Read' behind the data's end. -/
theorem rd_end (R n c : Nat) (ad : Option Addr) (i p : Int) (v : Value) (eof : Addr) (w : World)
    (hR : w.heap[R]? = some (.cells #[.slice ad n c, .int .i64 i, .int .i64 p] 38 (0, 0)))
    (hE : w.cell? ⟨0, 0, none⟩ = some (.iface 45 (.pointer (some eof)))) (hi : (n : Int) ≤ i) :
    Calls Tryd.prog 33 #[.pointer (some ⟨R, 0, none⟩), v] w fun e w' => e = .returned (.tuple #[.int .i64 0, .iface 45 (.pointer (some eof))]) ∧ ∃ k, w' = w.drewN k := by
  have c0 : w.cell? ⟨R, 0, none⟩ = some (.slice ad n c) := by simp [World.cell?, hR]
  have c1 : w.cell? ⟨R, 1, none⟩ = some (.int .i64 i) := by simp [World.cell?, hR]
  have hge : decide ((n : Int) ≤ i) = true := decide_eq_true hi
  clear hR
  go_enter Tryd.func33, Tryd.ntmps33
  go_wp2
  go_quiet (fail)
  go_wp2
  go_quiet (fail)
  go_wp2
  go_ret2
  exact ⟨rfl, _, World.drewN_drewN ..⟩

theorem addr_add_block (b o j : Nat) : ((⟨b, o, none⟩ : Addr).add j).block = b := by unfold Addr.add; split <;> simp_all

set_option maxHeartbeats 400000 in
/-- '(*bytes.Reader).Read' where data is left: what goes over is 'news'. -/
theorem rd_core (R B o n c i g off m cd k : Nat) (p : Int) (cur news : List Value) (w : World)
    (hR : w.heap[R]? = some (.cells #[.slice (some ⟨B, o, none⟩) n c, .int .i64 i, .int .i64 p] 38 (0, 0)))
    (HS : Hid (∀ j v, news[j]? = some v → w.cell? ((⟨B, o + i, none⟩ : Addr).add j) = some v)) (HL : Hid (news.length = k)) (HO : Hid (∀ v ∈ news, v.oneCell' = true))
    (hnc : n ≤ c) (hcm : c ≤ maxLen) (hi : i < n)
    (hg : w.heap[g]? = some (.cells cur.toArray 5 (0, 0))) (hfit : off + m ≤ cur.length) (hgR : g ≠ R) (hBR : B ≠ R) (HK : Hid (k = min (n - i) m)) :
    Calls Tryd.prog 33 #[.pointer (some ⟨R, 0, none⟩), .slice (some ⟨g, off, none⟩) m cd] w fun e w' => e = .returned (.tuple #[.int .i64 k, .nilIface]) ∧
      w'.heap[R]? = some (.cells #[.slice (some ⟨B, o, none⟩) n c, .int .i64 (i + k), .int .i64 (-1)] 38 (0, 0)) ∧
      w'.heap[g]? = some (.cells (splice cur off news).toArray 5 (0, 0)) ∧ Only [R, g] w w' := by
  unfold maxLen at hcm
  have c0 : w.cell? ⟨R, 0, none⟩ = some (.slice (some ⟨B, o, none⟩) n c) := by simp [World.cell?, hR]
  have c1 : w.cell? ⟨R, 1, none⟩ = some (.int .i64 i) := by simp [World.cell?, hR]
  have c2 : w.cell? ⟨R, 2, none⟩ = some (.int .i64 p) := by simp [World.cell?, hR]
  have f2 : w.frozen? ⟨R, 2, none⟩ = false := by simp [World.frozen?, hR]
  have hlt : (i : Int) < (n : Int) := by omega
  have hge : decide ((n : Int) ≤ (i : Int)) = false := decide_eq_false (by omega)
  have HR : Hid (w.heap[R]? = some (.cells #[.slice (some ⟨B, o, none⟩) n c, .int .i64 i, .int .i64 p] 38 (0, 0))) := hR
  have HG : Hid (w.heap[g]? = some (.cells cur.toArray 5 (0, 0))) := hg
  clear hR hg
  go_enter Tryd.func33, Tryd.ntmps33
  go_wp2
  go_quiet (fail)
  go_wp2
  have HR1 : Hid (((w.drewN nq).setCell ⟨R, 2, none⟩ (.int .i64 (-1))).heap[R]? = some (.cells #[.slice (some ⟨B, o, none⟩) n c, .int .i64 i, .int .i64 (-1)] 38 (0, 0))) := heap_set_same (w := w.drewN nq) HR.out (i := 2) _
  have HG1 : Hid (((w.drewN nq).setCell ⟨R, 2, none⟩ (.int .i64 (-1))).heap[g]? = some (.cells cur.toArray 5 (0, 0))) := (heap_set_other (w := w.drewN nq) _ hgR).trans HG.out
  have O0 : Only [R] w ((w.drewN nq).setCell ⟨R, 2, none⟩ (.int .i64 (-1))) := ((Only.refl _ _).drewN nq).setCell (by simp) _
  have O1 : Hid (Only [R, g] w ((w.drewN nq).setCell ⟨R, 2, none⟩ (.int .i64 (-1)))) := O0.mono (by simp)
  have HS1 : Hid (∀ j v, news[j]? = some v → ((w.drewN nq).setCell ⟨R, 2, none⟩ (.int .i64 (-1))).cell? ((⟨B, o + i, none⟩ : Addr).add j) = some v) := fun j v hj => O0.cell (HS.out j v hj) (by rw [addr_add_block]; simpa using hBR)
  clear O0 HS c0 c1 c2 f2
  generalize ((w.drewN nq).setCell ⟨R, 2, none⟩ (.int .i64 (-1))) = W1 at *
  have c0 : W1.cell? ⟨R, 0, none⟩ = some (.slice (some ⟨B, o, none⟩) n c) := by simp [World.cell?, HR1.out]
  have c1 : W1.cell? ⟨R, 1, none⟩ = some (.int .i64 i) := by simp [World.cell?, HR1.out]
  have i1 : (0 : Int) ≤ (i : Int) := by omega
  have i2 : (i : Int) ≤ (n : Int) := by omega
  have hci : ¬ c = i := by omega
  go_region_held3 (fun w' => w'.cell? ⟨R, 0, none⟩ = some (.slice (some ⟨B, o, none⟩) n c) ∧ w'.cell? ⟨R, 1, none⟩ = some (.int .i64 i)) (first | go_keep | exact ⟨Only.cell ho2 c0 (by simpa using hgR.symm), Only.cell ho2 c1 (by simpa using hgR.symm)⟩)
    ((refine step_copy_only (by rfl) (.tmp 20) (.tmp 29) 22 22 (by rfl) 5 Tryd.underlying22 (by kernel_rfl) g off m cd ⟨B, o + i, none⟩ (n - i) (c - i) (by rfl) (by rfl) cur 5 HG1.out news k HL.out HK.out HS1.out (by have := HL.out; have := HK.out; omega) HO.out ?_; intro w2 hg2 ho2))
  have ho3 : Only [g] W1 w2 := ⟨ho2.os, ho2.tape, ho2.output, ho2.size, ho2.block⟩
  have HR2 : Hid (w2.heap[R]? = some (.cells #[.slice (some ⟨B, o, none⟩) n c, .int .i64 i, .int .i64 (-1)] 38 (0, 0))) := Only.at ho3 HR1.out (by simpa using hgR.symm)
  have O2 : Hid (Only [R, g] w w2) := O1.out.trans (ho3.mono (by simp))
  clear c0 c1 ho2 ho3
  have c0 : w2.cell? ⟨R, 0, none⟩ = some (.slice (some ⟨B, o, none⟩) n c) := by simp [World.cell?, HR2.out]
  have c1 : w2.cell? ⟨R, 1, none⟩ = some (.int .i64 i) := by simp [World.cell?, HR2.out]
  have f1 : w2.frozen? ⟨R, 1, none⟩ = false := by simp [World.frozen?, HR2.out]
  have hb : (i : Int) + (k : Int) ≤ (n : Int) := by have := HK.out; omega
  go_wp2
  go_ret2
  exact ⟨rfl, heap_set_same HR2.out (i := 1) _, (heap_set_other _ hgR).trans hg2.out, O2.out.setCell (by simp) _⟩
end Go.Proofs.Qxb6614690aDoor
