import Derived.Test.Qxb6615571aBig
namespace Go.Proofs.Qxb6615571a
open Go.RowKit
set_option linter.unusedVariables false
set_option maxRecDepth 100000

/-- The request's box in memory. -/
def Box (W : World) (b : Nat) (ro ri rh rop : Int) (lb lk : Option Addr) (n2 n3 c2 c3 : Nat) : Prop := W.heap[b]? = some (.cells #[.int .u64 ri, .int .u8 rop, .int .u64 ro, .slice lb n2 c2, .slice lk n3 c3, .slice none 0 0, .pointer none, .pointer none, .slice none 0 0, .pointer none, .int .i8 0, .int .i64 rh, .int .i64 0, .int .u64 0, .slice none 0 0, .int .u64 0] 42 (0, 0))
theorem Box.cells {W : World} {b : Nat} {ro ri rh rop : Int} {lb lk : Option Addr} {n2 n3 c2 c3 : Nat} (h : Box W b ro ri rh rop lb lk n2 n3 c2 c3) :
    b < W.heap.size ∧ W.cell? ⟨b, 0, none⟩ = some (.int .u64 ri) ∧ W.cell? ⟨b, 1, none⟩ = some (.int .u8 rop) ∧ W.cell? ⟨b, 2, none⟩ = some (.int .u64 ro) ∧ W.cell? ⟨b, 3, none⟩ = some (.slice lb n2 c2) ∧ W.cell? ⟨b, 4, none⟩ = some (.slice lk n3 c3) ∧ W.cell? ⟨b, 5, none⟩ = some (.slice none 0 0) ∧ W.cell? ⟨b, 6, none⟩ = some (.pointer none) ∧ W.cell? ⟨b, 7, none⟩ = some (.pointer none) ∧ W.cell? ⟨b, 8, none⟩ = some (.slice none 0 0) ∧ W.cell? ⟨b, 9, none⟩ = some (.pointer none) ∧ W.cell? ⟨b, 10, none⟩ = some (.int .i8 0) ∧ W.cell? ⟨b, 11, none⟩ = some (.int .i64 rh) ∧ W.cell? ⟨b, 12, none⟩ = some (.int .i64 0) ∧ W.cell? ⟨b, 13, none⟩ = some (.int .u64 0) ∧ W.cell? ⟨b, 14, none⟩ = some (.slice none 0 0) ∧ W.cell? ⟨b, 15, none⟩ = some (.int .u64 0) := by
  unfold Box at h
  refine ⟨lt_of_block h, ?_, ?_, ?_, ?_, ?_, ?_, ?_, ?_, ?_, ?_, ?_, ?_, ?_, ?_, ?_, ?_⟩ <;> simp [World.cell?, h]

set_option maxHeartbeats 4000000 in
theorem law_main (o i h op ro ri rh rop : Int) (la lb lk : Option Addr) (n1 n2 n3 c1 c2 c3 : Nat) (w : World) (h1 : n1 ≤ 32768) (h2 : n2 ≤ 32768) (h3 : n3 ≤ 524288)
    (HP : Hid (Calls Try.prog 8 #[.slice la n1 c1] w fun e w' => (∃ la ln lc, e = .returned (.slice la ln lc)) ∧ Below w.heap.size w w')) :
    Calls Try.prog 3 #[.int .u64 o, .int .u64 i, .int .i64 h, .int .u8 op, .slice la n1 c1, .int .u64 ro, .int .u64 ri, .int .i64 rh, .int .u8 rop, .slice lb n2 c2, .slice lk n3 c3] w fun e w' => e = .returned (.bool true) ∧ Below w.heap.size w w' := by
  go_enter Try.func3, Try.ntmps3
  go_wp2_with (first
    | (go_at_call 7; refine (bytes_yes o i h op ro ri rh rop la lb lk n1 n2 n3 c1 c2 c3 _ h1 h2 h3).mono ?_; rintro e w' ⟨rfl, rfl⟩)
    | (go_at_call 8; refine HP.out.mono ?_; rintro e w2 ⟨⟨lp, np, cp, rfl⟩, B2⟩; have L2 : Hid (Below w.heap.size w w2) := B2; clear B2)
    | fail)
  refine (zz_ack o i h op lp np cp _).mono ?_
  rintro e w3 ⟨rfl, B3⟩
  have X3 : Hid (Box w3 (w2.heap.size + 1) ro ri rh rop lb lk n2 n3 c2 c3) := (B3.block _ (by simp)).trans (by
    have := heap_alloc_new (w2.alloc (.cells #[.int .u64 o, .int .u64 i, .int .i64 h, .int .u8 op, .slice lp np cp] 32)) (.cells #[.int .u64 ri, .int .u8 rop, .int .u64 ro, .slice lb n2 c2, .slice lk n3 c3, .slice none 0 0, .pointer none, .pointer none, .slice none 0 0, .pointer none, .int .i8 0, .int .i64 rh, .int .i64 0, .int .u64 0, .slice none 0 0, .int .u64 0] 42)
    simpa using this)
  have L3 : Hid (Below w.heap.size w w3) := ((L2.out.alloc L2.out.size _).alloc (Nat.le_trans L2.out.size (by simp)) _).trans (B3.mono (Nat.le_trans L2.out.size (by simp; omega)))
  obtain ⟨hlt, d0, d1, d2, d3, d4, d5, d6, d7, d8, d9, d10, d11, d12, d13, d14, d15⟩ := X3.out.cells
  clear B3
  go_wp2_with fail
  refine (zz_req ro ri rh rop 0 .i8 lb lk n2 n3 c2 c3 _).mono ?_
  rintro e w4 ⟨rfl, B4⟩
  have L4 : Hid (Below w.heap.size w w4) := L3.out.trans (B4.mono L3.out.size)
  clear B4 X3 hlt d0 d1 d2 d3 d4 d5 d6 d7 d8 d9 d10 d11 d12 d13 d14 d15
  by_cases q1 : o = ro
  · subst q1
    by_cases q2 : i = ri
    · subst q2
      by_cases q3 : h = rh
      · subst q3
        go_wp2
        go_ret
        exact ⟨rfl, L4.out⟩
      · have b3 : (h == rh) = false := beq_false_of_ne q3
        go_wp2
        go_ret
        exact ⟨rfl, L4.out⟩
    · have b2 : (i == ri) = false := beq_false_of_ne q2
      go_wp2
      go_ret
      exact ⟨rfl, L4.out⟩
  · have b1 : (o == ro) = false := beq_false_of_ne q1
    go_wp2
    go_ret
    exact ⟨rfl, L4.out⟩

/-- A slice of uint64s that came in: nil, or the elements' cells. -/
def IsRow (w : World) (a : Option Addr) (n c : Nat) : Prop := (a = none ∧ n = 0 ∧ c = 0) ∨ ∃ x, a = some x ∧ Src w x n

theorem law_all (o i h op ro ri rh rop : Int) (la lb lk : Option Addr) (n1 n2 n3 c1 c2 c3 : Nat) (w : World) (h1 : n1 ≤ maxLen) (h2 : n2 ≤ maxLen) (h3 : n3 ≤ maxLen) (hr : IsRow w la n1 c1) :
    Calls Try.prog 3 #[.int .u64 o, .int .u64 i, .int .i64 h, .int .u8 op, .slice la n1 c1, .int .u64 ro, .int .u64 ri, .int .i64 rh, .int .u8 rop, .slice lb n2 c2, .slice lk n3 c3] w fun e w' => e = .returned (.bool true) ∧ Below w.heap.size w w' := by
  unfold maxLen at h1 h2 h3
  by_cases hb : 32768 < n1 ∨ 32768 < n2 ∨ 524288 < n3
  · exact law_big o i h op ro ri rh rop la lb lk n1 n2 n3 c1 c2 c3 w (by omega) (by omega) (by omega) hb
  · refine law_main o i h op ro ri rh rop la lb lk n1 n2 n3 c1 c2 c3 w (by omega) (by omega) (by omega) ?_
    rcases hr with ⟨rfl, rfl, rfl⟩ | ⟨x, rfl, hs⟩
    · exact peers_nil w
    · exact peers_row x n1 c1 w hs (by omega)
end Go.Proofs.Qxb6615571a
