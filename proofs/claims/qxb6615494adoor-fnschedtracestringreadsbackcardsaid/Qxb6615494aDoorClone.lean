import Derived.Test.Qxb6615494aDoorStr
import Derived.Lib.SliceRun
namespace Go.Proofs.Qxb6615494aDoor
open Go.RowKit
set_option linter.unusedVariables false

theorem info3 : (Tryd.prog.info? 3).map (fun i => (i.zero, i.size, i.bytes)) = some (some (.int .i64 0), 1, 8) := by kernel_rfl

theorem ownsRow_block {w : World} {base : Nat} {e : TypeId} {g n cap : Nat} {xs : List Value} (h : w.ownsRow base e 1 (.slice (some ⟨g, 0, none⟩) n cap) n xs) :
    ∃ cur : List Value, w.heap[g]? = some (.cells cur.toArray e (0, 0)) ∧ n ≤ cap ∧ cap ≤ maxLen ∧ cur.length = cap ∧ cur.take n = xs ∧ base ≤ g := by
  obtain ⟨_, h | ⟨g', cap', cur, hv, hb, hh, h1, h2, h3, h4⟩⟩ := h
  · simp at h
  · simp at hv
    obtain ⟨rfl, rfl⟩ := hv
    exact ⟨cur.toList, by simpa using hh, h1, h2, by simpa using h3, by simpa using h4, hb⟩

theorem cell_row {W : World} {g k : Nat} {l : List Value} {v : Value} (h : W.heap[g]? = some (.cells l.toArray 3 (0, 0))) (hv : l[k]? = some v) : W.cell? ⟨g, k, none⟩ = some v := by
  simp [World.cell?, h, hv]
theorem free_row {W : World} {g k : Nat} {l : List Value} (h : W.heap[g]? = some (.cells l.toArray 3 (0, 0))) : W.frozen? ⟨g, k, none⟩ = false := by
  simp [World.frozen?, h]
theorem set_row {W : World} {g k : Nat} {l : List Value} (h : W.heap[g]? = some (.cells l.toArray 3 (0, 0))) (v : Value) : (W.setCell ⟨g, k, none⟩ v).heap[g]? = some (.cells (l.set k v).toArray 3 (0, 0)) := by
  rw [setCell_eq_setRow W g k l.toArray 3 (0, 0) v h]
  rw [setRow_heap W g l.toArray _ 3 (0, 0) h]
  simp

/-- What is copied so far: k numbers. -/
def Got (wr : World) (g n k : Nat) (zs : List Int) : Prop := ∃ cur : List Value, wr.heap[g]? = some (.cells cur.toArray 3 (0, 0)) ∧ cur.length = n ∧ ∀ j, j < k → cur[j]? = some (.int .i64 (zs.getD j 0))

theorem Got.next {wr : World} {g n k : Nat} {zs : List Int} (h : Got wr g n k zs) (hk : k < n) : Got (wr.setCell ⟨g, k, none⟩ (.int .i64 (zs.getD k 0))) g n (k + 1) zs := by
  obtain ⟨cur, h1, h2, h3⟩ := h
  refine ⟨_, set_row h1 _, by simpa using h2, fun j hj => ?_⟩
  by_cases e : j = k
  · subst e
    rw [List.getElem?_set_self (by omega)]
  · rw [List.getElem?_set_ne (by omega)]
    exact h3 j (by omega)

def Src (w : World) (x : Addr) (n : Nat) (zs : List Int) : Prop := ∀ k, k < n → w.cell? (x.add k) = some (.int .i64 (zs.getD k 0)) ∧ inI (zs.getD k 0)

theorem clone_nil (w : World) : Calls Tryd.prog 5 #[.slice none 0 0] w fun e w' => e = .returned (.slice none 0 0) ∧ w = w' := by
  have q22 : ∀ (w : World) (a : Option Addr) (n c n' c' : Nat), (binOp .eql 22 (.slice a n c) (.slice none n' c')).run Tryd.prog w = .ok (.bool a.isNone) w := fun w a n c n' c' => Lib.run_eql_slice_nil w _ _ a n c n' c' Tryd.underlying22
  go_enter Tryd.func5, Tryd.ntmps5
  go_wp2
  go_ret
  exact ⟨rfl, rfl⟩

set_option maxHeartbeats 1000000 in
theorem clone_row (x : Addr) (n cap : Nat) (zs : List Int) (w : World) (HS : Hid (Src w x n zs)) (hn : n ≤ 65536) :
    Calls Tryd.prog 5 #[.slice (some x) n cap] w fun e w' => e = .returned (.slice (some ⟨w.heap.size, 0, none⟩) n n) ∧ Qu w' (some ⟨w.heap.size, 0, none⟩) n zs w.heap.size ∧ Below w.heap.size w w' := by
  obtain ⟨i3, hi3, hz0, hz1, hz2⟩ := info_parts info3
  have q22 : ∀ (w : World) (a : Option Addr) (n c n' c' : Nat), (binOp .eql 22 (.slice a n c) (.slice none n' c')).run Tryd.prog w = .ok (.bool a.isNone) w := fun w a n c n' c' => Lib.run_eql_slice_nil w _ _ a n c n' c' Tryd.underlying22
  go_enter Tryd.func5, Tryd.ntmps5
  go_wp2_with (at_make; refine wpList_make_full _ rfl (.tmp 8) (.tmp 8) 22 rfl w.heap.size 3 i3 (.int .i64 0) 1 Tryd.underlying22 hi3 hz0 hz1 .i64 .i64 n n n rfl rfl rfl rfl (by rw [hz2]; omega) (by unfold maxLen; omega) (Nat.le_refl _) ?_; intro w1 hown1 hgrow1)
  obtain ⟨cur1, q1, -, -, q2, -, -⟩ := ownsRow_block hown1
  have HG : Hid (Got w1 w.heap.size n 0 zs) := ⟨cur1, q1, q2, fun j hj => absurd hj (Nat.not_lt_zero j)⟩
  have HB1 : Hid (Below w.heap.size w w1) := (Below.refl _ _).grown hgrow1 (Nat.le_refl _) (by simp)
  clear hown1 hgrow1 q1 q2
  go_loopw [4] (fun i wr => ∃ k : Nat, k ≤ n ∧ i = .int .i64 k ∧ Hid (Got wr w.heap.size n k zs) ∧ Hid (Below w.heap.size w wr)) (fun i _ => n - (intOf i).toNat)
  case atStart => exact ⟨0, Nat.zero_le _, rfl, HG, HB1⟩
  case round =>
    obtain ⟨k, hk, rfl, HR, HB⟩ := hrel
    by_cases hlt : k < n
    · obtain ⟨cur, r1, r2, -⟩ := HR.out
      have c1 : wr.cell? (x.add k) = some (.int .i64 (zs.getD k 0)) := (HB.out.cell (World.block_lt_of_cell? w _ (HS.out k hlt).1)).trans (HS.out k hlt).1
      obtain ⟨v2, e2⟩ : ∃ v2, cur[k]? = some v2 := ⟨_, List.getElem?_eq_getElem (by omega)⟩
      have c2 : wr.cell? ⟨w.heap.size, k, none⟩ = some v2 := cell_row r1 e2
      have f2 : wr.frozen? ⟨w.heap.size, k, none⟩ = false := free_row r1
      obtain ⟨z, ez⟩ : ∃ z, z = zs.getD k 0 := ⟨_, rfl⟩
      have HZ : Hid (z = zs.getD k 0) := ez
      rw [← ez] at c1
      clear r1 r2 e2 ez
      go_wp2
      go_roundw
      case rel => exact ⟨k + 1, by omega, by go_num, by rw [HZ.out]; exact HR.out.next hlt, HB.out.setCell (Nat.le_refl _) _⟩
      case measure => simp [intOf]; omega
    · go_wp2
      go_ret
      obtain rfl : k = n := by omega
      obtain ⟨cur, r1, r2, r3⟩ := HR.out
      refine ⟨rfl, ⟨.inl rfl, fun j hj => ⟨lt_of_block r1, cell_row r1 (r3 j hj), (HS.out j hj).2.1, (HS.out j hj).2.2⟩, hn⟩, HB.out⟩

theorem new_any (at_ i1 i2 i3 i4 i5 : Int) (la : Option Addr) (ln lc : Nat) (w : World) :
    Calls Tryd.prog 6 #[.int .i64 at_, .int .i64 i1, .int .i64 i2, .int .i64 i3, .int .i64 i4, .int .i64 i5, .slice la ln lc] w fun e w' => e = .returned (.agg #[.int .i64 at_, .int .i64 i1, .int .i64 i2, .int .i64 i3, .int .i64 i4, .int .i64 i5, .slice la ln lc]) ∧ Below w.heap.size w w' := by
  go_enter Tryd.func6, Tryd.ntmps6
  go_wp2
  refine bodyPost_ret (v := .agg #[.int .i64 at_, .int .i64 i1, .int .i64 i2, .int .i64 i3, .int .i64 i4, .int .i64 i5, .slice la ln lc]) (by simp [results, Tryd.results6, go_sem]) rfl ⟨rfl, ?_⟩
  exact (Below.refl _ _).alloc (Nat.le_refl _) _

theorem bytes_yes (at_ i1 i2 i3 i4 i5 : Int) (la : Option Addr) (ln lc : Nat) (w : World) (h : ln ≤ 65536) :
    Calls Tryd.prog 4 #[.int .i64 at_, .int .i64 i1, .int .i64 i2, .int .i64 i3, .int .i64 i4, .int .i64 i5, .slice la ln lc] w fun e w' => e = .returned (.bool true) ∧ w = w' := by
  go_enter Tryd.func4, Tryd.ntmps4
  go_wp2
  go_ret
  exact ⟨rfl, rfl⟩
end Go.Proofs.Qxb6615494aDoor
