import Derived.Test.Qxb6615571aKeys
import Derived.Lib.SliceRun
namespace Go.Proofs.Qxb6615571a
open Go.RowKit
set_option linter.unusedVariables false

theorem info40 : (Try.prog.info? 40).map (fun i => (i.zero, i.size, i.bytes)) = some (some (.agg #[.int .u64 0, .slice none 0 0, .int .u64 0]), 3, 40) := by kernel_rfl

theorem ownsRow_block {w : World} {base : Nat} {e : TypeId} {g n cap s : Nat} {xs : List Value} (h : w.ownsRow base e s (.slice (some ⟨g, 0, none⟩) n cap) n xs) :
    ∃ cur : List Value, w.heap[g]? = some (.cells cur.toArray e (0, 0)) ∧ cur.length = cap * s ∧ base ≤ g := by
  obtain ⟨_, h | ⟨g', cap', cur, hv, hb, hh, h1, h2, h3, h4⟩⟩ := h
  · simp at h
  · simp at hv
    obtain ⟨rfl, rfl⟩ := hv
    exact ⟨cur.toList, by simpa using hh, by simpa using h3, hb⟩

theorem cell_row {W : World} {g k : Nat} {l : List Value} {v : Value} (h : W.heap[g]? = some (.cells l.toArray 40 (0, 0))) (hv : l[k]? = some v) : W.cell? ⟨g, k, none⟩ = some v := by
  simp [World.cell?, h, hv]
theorem free_row {W : World} {g k : Nat} {l : List Value} (h : W.heap[g]? = some (.cells l.toArray 40 (0, 0))) : W.frozen? ⟨g, k, none⟩ = false := by
  simp [World.frozen?, h]
theorem set_row {W : World} {g k : Nat} {l : List Value} (h : W.heap[g]? = some (.cells l.toArray 40 (0, 0))) (v : Value) : (W.setCell ⟨g, k, none⟩ v).heap[g]? = some (.cells (l.set k v).toArray 40 (0, 0)) := by
  rw [setCell_eq_setRow W g k l.toArray 40 (0, 0) v h]
  rw [setRow_heap W g l.toArray _ 40 (0, 0) h]
  simp

def Src (w : World) (x : Addr) (n : Nat) : Prop := ∀ k, k < n → ∃ z, w.cell? (x.add k) = some (.int .u64 z)
def Rows3 (wr : World) (g n : Nat) : Prop := ∃ cur : List Value, wr.heap[g]? = some (.cells cur.toArray 40 (0, 0)) ∧ cur.length = n * 3

theorem peers_nil (w : World) : Calls Try.prog 8 #[.slice none 0 0] w fun e w' => (∃ la ln lc, e = .returned (.slice la ln lc)) ∧ Below w.heap.size w w' := by
  have q23 : ∀ (w : World) (a : Option Addr) (n c n' c' : Nat), (binOp .eql 23 (.slice a n c) (.slice none n' c')).run Try.prog w = .ok (.bool a.isNone) w := fun w a n c n' c' => Lib.run_eql_slice_nil w _ _ a n c n' c' Try.underlying23
  go_enter Try.func8, Try.ntmps8
  go_wp2
  go_ret
  exact ⟨⟨_, _, _, rfl⟩, Below.refl _ _⟩

set_option maxHeartbeats 1000000 in
theorem peers_row (x : Addr) (n cap : Nat) (w : World) (HS : Hid (Src w x n)) (hn : n ≤ 32768) :
    Calls Try.prog 8 #[.slice (some x) n cap] w fun e w' => (∃ la ln lc, e = .returned (.slice la ln lc)) ∧ Below w.heap.size w w' := by
  have q23 : ∀ (w : World) (a : Option Addr) (n c n' c' : Nat), (binOp .eql 23 (.slice a n c) (.slice none n' c')).run Try.prog w = .ok (.bool a.isNone) w := fun w a n c n' c' => Lib.run_eql_slice_nil w _ _ a n c n' c' Try.underlying23
  obtain ⟨i40, hi40, hz0, hz1, hz2⟩ := info_parts info40
  go_enter Try.func8, Try.ntmps8
  go_wp2_with (at_make; refine wpList_make_full _ rfl (.tmp 8) (.tmp 8) 29 rfl w.heap.size 40 i40 (.agg #[.int .u64 0, .slice none 0 0, .int .u64 0]) 3 Try.underlying29 hi40 hz0 hz1 .i64 .i64 n n n rfl rfl rfl rfl (by rw [hz2]; omega) (by unfold maxLen; omega) (Nat.le_refl _) ?_; intro w1 hown1 hgrow1)
  obtain ⟨cur1, q1, q2, -⟩ := ownsRow_block hown1
  have HG : Hid (Rows3 w1 w.heap.size n) := ⟨cur1, q1, q2⟩
  have HB1 : Hid (Below w.heap.size w w1) := (Below.refl _ _).grown hgrow1 (Nat.le_refl _) (by simp)
  clear hown1 hgrow1 q1 q2
  go_loopw [4] (fun i wr => ∃ k : Nat, k ≤ n ∧ i = .int .i64 k ∧ Hid (Rows3 wr w.heap.size n) ∧ Hid (Below w.heap.size w wr)) (fun i _ => n - (intOf i).toNat)
  case atStart => exact ⟨0, Nat.zero_le _, rfl, HG, HB1⟩
  case round =>
    obtain ⟨k, hk, rfl, HR, HB⟩ := hrel
    by_cases hlt : k < n
    · obtain ⟨cur, r1, r2⟩ := HR.out
      obtain ⟨z, hz⟩ := HS.out k hlt
      have c1 : wr.cell? (x.add k) = some (.int .u64 z) := (HB.out.cell (World.block_lt_of_cell? w _ hz)).trans hz
      obtain ⟨v0, e0⟩ : ∃ v, cur[k * 3]? = some v := ⟨_, List.getElem?_eq_getElem (by omega)⟩
      obtain ⟨v1, e1⟩ : ∃ v, cur[k * 3 + 1]? = some v := ⟨_, List.getElem?_eq_getElem (by omega)⟩
      obtain ⟨v2, e2⟩ : ∃ v, cur[k * 3 + 2]? = some v := ⟨_, List.getElem?_eq_getElem (by omega)⟩
      have d0 : wr.cell? ⟨w.heap.size, k * 3, none⟩ = some v0 := cell_row r1 e0
      have d1 : wr.cell? ⟨w.heap.size, k * 3 + 1, none⟩ = some v1 := cell_row r1 e1
      have d2 : wr.cell? ⟨w.heap.size, k * 3 + 2, none⟩ = some v2 := cell_row r1 e2
      have f2 : ∀ j, wr.frozen? ⟨w.heap.size, j, none⟩ = false := fun j => free_row r1
      have R1 : Hid (wr.heap[w.heap.size]? = some (.cells cur.toArray 40 (0, 0))) := r1
      have R2 : Hid (cur.length = n * 3) := r2
      clear r1 r2 e0 e1 e2 hz
      go_wp2
      go_roundw
      case rel => exact ⟨k + 1, by omega, by go_num, ⟨_, set_row (set_row (set_row R1.out _) _) _, by have := R2.out; simp; omega⟩, ((HB.out.setCell (Nat.le_refl _) _).setCell (Nat.le_refl _) _).setCell (Nat.le_refl _) _⟩
      case measure => simp [intOf]; omega
    · go_wp2
      go_ret
      exact ⟨⟨_, _, _, rfl⟩, HB.out⟩
end Go.Proofs.Qxb6615571a
