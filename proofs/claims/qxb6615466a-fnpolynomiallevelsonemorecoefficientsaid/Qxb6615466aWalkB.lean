import Derived.Test.Qxb6615466aWalkA
namespace Go.Proofs.Qxb6615466a
open Go.RowKit
set_option linter.unusedVariables false
attribute [local go_sem] run_store_float

theorem bytes11_yes (x0 x1 y n c : Nat) (a : Option Addr) (w : World) (h : n ≤ 1048576) :
    Calls Try.prog 11 #[.agg #[.float .f64 x0, .float .f64 x1], .slice a n c, .float .f64 y] w fun e w' => e = .returned (.bool true) ∧ Below w.heap.size w w' := by
  go_enter Try.func11, Try.ntmps11
  go_wp2
  go_ret
  exact ⟨rfl, (Below.refl _ _).alloc (Nat.le_refl _) _⟩

set_option maxHeartbeats 400000 in
theorem walkB_big (x0 x1 y n c : Nat) (a : Option Addr) (w : World) (hm : n ≤ maxLen) (h : 131072 < n) :
    Calls Try.prog 4 #[.agg #[.float .f64 x0, .float .f64 x1], .slice a n c, .float .f64 y] w fun e w' => e = .returned (.bool true) ∧ Below w.heap.size w w' := by
  unfold maxLen at hm
  have h1 : (131072 : Int) < (n : Int) := by omega
  by_cases hb : 1048576 < n
  · go_enter Try.func4, Try.ntmps4
    go_wp2
    go_ret
    exact ⟨rfl, ((Below.refl _ _).alloc (Nat.le_refl _) _).alloc (by simp) _⟩
  · go_enter Try.func4, Try.ntmps4
    go_wp2
    go_ret
    exact ⟨rfl, ((Below.refl _ _).alloc (Nat.le_refl _) _).alloc (by simp) _⟩

set_option maxHeartbeats 2000000 in
theorem walkB_row (x0 x1 y n cap : Nat) (x : Addr) (cs : List Value) (w : World) (HCL : Hid (cs.length = n)) (HSR : Hid (∀ j v, cs[j]? = some v → w.cell? (x.add j) = some v)) (HFL : Hid (∀ v ∈ cs, ∃ b, v = .float .f64 b))
    (hn : n ≤ 131072) (hlc : n ≤ cap) (hcap : cap ≤ maxLen) :
    Calls Try.prog 4 #[.agg #[.float .f64 x0, .float .f64 x1], .slice (some x) n cap, .float .f64 y] w fun e w' => e = .returned (.bool true) ∧ Below w.heap.size w w' := by
  unfold maxLen at hcap
  obtain ⟨i22, hi22, hz0, hz1, hz2⟩ := info_parts info22
  have HC1 : Hid (∀ v ∈ cs, v.oneCell' = true) := fun v hv => by obtain ⟨b, rfl⟩ := HFL.out v hv; rfl
  go_enter Try.func4, Try.ntmps4
  go_wp2_with (first
    | (go_at_call 11; refine (bytes11_yes x0 x1 y n cap (some x) _ (by omega)).mono ?_; rintro e W1 ⟨rfl, hb1⟩; have X1 := Box.first w W1 x0 x1 hb1; have L1 := lowly w W1 x0 x1 hb1; clear hb1)
    | (at_make; refine wpList_make_full _ rfl (.tmp 24) (.tmp 24) 24 rfl W1.heap.size 22 i22 (.float .f64 0) 1 Try.underlying24 hi22 hz0 hz1 .i64 .i64 n n n rfl rfl rfl rfl (by rw [hz2]; omega) (by unfold maxLen; omega) (Nat.le_refl _) ?_; intro w1 hown1 hgrow1)
    | (obtain ⟨cur1, q1, -, -, q2, -, -⟩ := ownsRow_block hown1; refine wpList_copy_splice rfl (.tmp 26) (.tmp 27) 24 24 rfl 22 Try.underlying24 (by kernel_rfl) (some ⟨W1.heap.size, 0, none⟩) (some x) n n n cap rfl rfl W1.heap.size 0 cur1 22 q1 cs (by rw [HCL.out]; exact (Nat.min_self _).symm) (fun _ => ⟨rfl, x, rfl, fun j v hj => hgrow1.cell ((L1.cell (World.block_lt_of_cell? w _ (HSR.out j v hj))).trans (HSR.out j v hj)) (by simp)⟩) (by rw [HCL.out, q2]; omega) HC1.out W1.heap.size W1 ((Below.refl _ _).grown hgrow1 (Nat.le_refl _) (by simp)) (Nat.le_refl _) ?_; intro w2 HG2 hb2)
    | (at_make; refine wpList_make_full _ rfl (.tmp 33) (.tmp 33) 24 rfl w2.heap.size 22 i22 (.float .f64 0) 1 Try.underlying24 hi22 hz0 hz1 .i64 .i64 ((n : Int) + 1) ((n : Int) + 1) (n + 1) rfl rfl (by omega) (by omega) (by rw [hz2]; omega) (by unfold maxLen; omega) (Nat.le_refl _) ?_; intro w3 hown3 hgrow3)
    | fail)
  have h12 : W1.heap.size < w2.heap.size := lt_of_block HG2.out
  have HG1 : Hid (w3.heap[W1.heap.size]? = some (.cells (splice cur1 0 cs).toArray 22 (0, 0))) := (hgrow3.block _ h12 (by simp)).trans HG2.out
  obtain ⟨cur2, q3, -, -, q4, -, -⟩ := ownsRow_block hown3
  have HQ3 : Hid (w3.heap[w2.heap.size]? = some (.cells cur2.toArray 22 (0, 0))) := q3
  have HQ4 : Hid (cur2.length = n + 1) := q4
  have B3 : Hid (Below W1.heap.size W1 w3) := hb2.grown hgrow3 hb2.size (by simp)
  have X3 : Hid (Box w w3 x0 x1) := X1.later B3.out X1.lt
  have L3 : Hid (Below w.heap.size w w3) := L1.trans (B3.out.mono (Nat.le_of_lt X1.lt))
  have hwG : w.heap.size < w2.heap.size := by have := X1.lt; omega
  clear hown1 hgrow1 HG2 hb2 hown3 hgrow3 q1 q2 q3 q4 X1 L1 B3
  go_loopw [10] (fun i wr => ∃ k : Nat, k ≤ n ∧ i = .int .i64 k ∧ Hid (∃ cur : List Value, wr.heap[w2.heap.size]? = some (.cells cur.toArray 22 (0, 0)) ∧ cur.length = n + 1) ∧ Hid (Below w2.heap.size w3 wr)) (fun i _ => n - (intOf i).toNat)
  case atStart => exact ⟨0, Nat.zero_le _, rfl, ⟨cur2, HQ3.out, HQ4.out⟩, Below.refl _ _⟩
  case round =>
    obtain ⟨k, hk, rfl, HR, HB⟩ := hrel
    by_cases hlt : k < n
    · obtain ⟨cur, r1, r2⟩ := HR.out
      obtain ⟨b, hb⟩ := copied_get (cur := cur1) HCL.out k hlt HFL.out
      have c1 : wr.cell? ⟨W1.heap.size, k, none⟩ = some (.float .f64 b) := cell_row ((HB.out.block _ h12).trans HG1.out) hb
      obtain ⟨v2, e2⟩ : ∃ v2, cur[k]? = some v2 := ⟨_, List.getElem?_eq_getElem (by omega)⟩
      have c2 : wr.cell? ⟨w2.heap.size, k, none⟩ = some v2 := cell_row r1 e2
      have f2 : wr.frozen? ⟨w2.heap.size, k, none⟩ = false := free_row r1
      have R1 : Hid (wr.heap[w2.heap.size]? = some (.cells cur.toArray 22 (0, 0))) := r1
      have R2 : Hid (cur.length = n + 1) := r2
      clear hb r1 r2 e2
      go_wp2
      go_roundw
      case rel => exact ⟨k + 1, by omega, by go_num, ⟨_, set_row R1.out _, by have := R2.out; simp; omega⟩, HB.out.setCell (Nat.le_refl _) _⟩
      case measure => simp [intOf]; omega
    · obtain ⟨cur, r1, r2⟩ := HR.out
      obtain ⟨v2, e2⟩ : ∃ v2, cur[n]? = some v2 := ⟨_, List.getElem?_eq_getElem (by omega)⟩
      have k2 : wr.cell? ⟨w2.heap.size, n, none⟩ = some v2 := cell_row r1 e2
      have f2 : wr.frozen? ⟨w2.heap.size, n, none⟩ = false := free_row r1
      have HB9 : Hid (Below w2.heap.size w3 (wr.setCell ⟨w2.heap.size, n, none⟩ (.float .f64 y))) := HB.out.setCell (Nat.le_refl _) _
      have XR : Box w (wr.setCell ⟨w2.heap.size, n, none⟩ (.float .f64 y)) x0 x1 := X3.out.later HB9.out hwG
      have c0 := XR.c0
      have c1 := XR.c1
      have HXR : Hid (Box w (wr.setCell ⟨w2.heap.size, n, none⟩ (.float .f64 y)) x0 x1) := XR
      have LR : Hid (Below w.heap.size w (wr.setCell ⟨w2.heap.size, n, none⟩ (.float .f64 y))) := L3.out.trans (HB9.out.mono (Nat.le_of_lt hwG))
      clear XR HR HB HB9 r1 r2 e2
      go_wp2_with fail
      rcases (show n = 0 ∨ n = 1 ∨ 2 ≤ n by omega) with hz | hz | hz
      · have H1 : Hid (lev n = 64) := by rw [hz]; exact lev_zero
        have H2 : Hid (lev (n + 1) = 1) := by rw [hz]; exact lev_one
        have hq : ((n : Int) == 0) = true := by rw [hz]; rfl
        clear hz
        refine (poly_any x0 x1 n n (some ⟨W1.heap.size, 0, none⟩) (wr.setCell ⟨w2.heap.size, n, none⟩ (.float .f64 y)) (by omega) (64) H1).mono ?_
        rintro e w5 ⟨rfl, hb5⟩
        have X5 : Hid (Box w w5 x0 x1) := HXR.out.later hb5 HXR.out.lt
        have d0 := X5.out.c0
        have d1 := X5.out.c1
        have L5 : Hid (Below w.heap.size w w5) := LR.out.trans (hb5.mono LR.out.size)
        clear hb5 c0 c1
        go_wp2_with fail
        refine (poly_any x0 x1 (n + 1) (n + 1) (some ⟨w2.heap.size, 0, none⟩) w5 (by omega) (1) H2).mono ?_
        rintro e w6 ⟨rfl, hb6⟩
        have L6 : Below w.heap.size w w6 := L5.out.trans (hb6.mono L5.out.size)
        clear hb6 d0 d1
        go_wp2_with (go_at_call 9; refine (wordBits_any _).mono ?_; rintro e w7 ⟨rfl, rfl⟩)
        go_ret
        exact ⟨rfl, L6⟩
      · have H1 : Hid (lev n = 1) := by rw [hz]; exact lev_one
        have H2 : Hid (lev (n + 1) = 1) := by rw [hz]; exact lev_two
        have hq : ((n : Int) == 0) = false := by rw [hz]; rfl
        have hq1 : decide ((2 : Int) ≤ (n : Int)) = false := by rw [hz]; rfl
        have hge : 1 ≤ n := by omega
        clear hz
        refine (poly_any x0 x1 n n (some ⟨W1.heap.size, 0, none⟩) (wr.setCell ⟨w2.heap.size, n, none⟩ (.float .f64 y)) (by omega) (1) H1).mono ?_
        rintro e w5 ⟨rfl, hb5⟩
        have X5 : Hid (Box w w5 x0 x1) := HXR.out.later hb5 HXR.out.lt
        have d0 := X5.out.c0
        have d1 := X5.out.c1
        have L5 : Hid (Below w.heap.size w w5) := LR.out.trans (hb5.mono LR.out.size)
        clear hb5 c0 c1
        go_wp2_with fail
        refine (poly_any x0 x1 (n + 1) (n + 1) (some ⟨w2.heap.size, 0, none⟩) w5 (by omega) (1) H2).mono ?_
        rintro e w6 ⟨rfl, hb6⟩
        have L6 : Below w.heap.size w w6 := L5.out.trans (hb6.mono L5.out.size)
        clear hb6 d0 d1
        go_wp2_with (go_at_call 12; refine (halvings_any n _ hge (by omega) 1 H1).mono ?_; rintro e w7 ⟨rfl, rfl⟩)
        go_ret
        exact ⟨rfl, L6⟩
      · by_cases hnb : newBit n = true
        · obtain ⟨La, eLa⟩ : ∃ La, lev n = La := ⟨_, rfl⟩
          have HL64 : Hid (La ≤ 64) := by rw [← eLa]; exact lev_le n hz (by omega)
          have HR : Hid (newBit n = true) := hnb
          have H1 : Hid (lev n = La) := eLa
          have H2 : Hid (lev (n + 1) = La + 1) := by unfold Hid; rw [lev_more n hz (by omega), HR.out, eLa]; rfl
          have hq : ((n : Int) == 0) = false := beq_false_of_ne (by omega)
          have hge : 1 ≤ n := by omega
          have hL64 : La ≤ 64 := HL64.out
          clear eLa hnb
          refine (poly_any x0 x1 n n (some ⟨W1.heap.size, 0, none⟩) (wr.setCell ⟨w2.heap.size, n, none⟩ (.float .f64 y)) (by omega) (La) H1).mono ?_
          rintro e w5 ⟨rfl, hb5⟩
          have X5 : Hid (Box w w5 x0 x1) := HXR.out.later hb5 HXR.out.lt
          have d0 := X5.out.c0
          have d1 := X5.out.c1
          have L5 : Hid (Below w.heap.size w w5) := LR.out.trans (hb5.mono LR.out.size)
          clear hb5 c0 c1
          go_wp2_with fail
          refine (poly_any x0 x1 (n + 1) (n + 1) (some ⟨w2.heap.size, 0, none⟩) w5 (by omega) (La + 1) H2).mono ?_
          rintro e w6 ⟨rfl, hb6⟩
          have L6 : Below w.heap.size w w6 := L5.out.trans (hb6.mono L5.out.size)
          clear hb6 d0 d1
          go_wp2_with (first | (go_at_call 12; refine (halvings_any n _ hge (by omega) La H1).mono ?_; rintro e w7 ⟨rfl, rfl⟩) | (go_at_call 13; refine (pow2_any n _ hge (by omega) true HR).mono ?_; rintro e w8 ⟨rfl, rfl⟩))
          go_ret
          exact ⟨rfl, L6⟩
        · obtain ⟨La, eLa⟩ : ∃ La, lev n = La := ⟨_, rfl⟩
          have HL64 : Hid (La ≤ 64) := by rw [← eLa]; exact lev_le n hz (by omega)
          have HR : Hid (newBit n = false) := by simpa [Hid] using hnb
          have H1 : Hid (lev n = La) := eLa
          have H2 : Hid (lev (n + 1) = La) := by unfold Hid; rw [lev_more n hz (by omega), HR.out, eLa]; rfl
          have hq : ((n : Int) == 0) = false := beq_false_of_ne (by omega)
          have hge : 1 ≤ n := by omega
          have hL64 : La ≤ 64 := HL64.out
          clear eLa hnb
          refine (poly_any x0 x1 n n (some ⟨W1.heap.size, 0, none⟩) (wr.setCell ⟨w2.heap.size, n, none⟩ (.float .f64 y)) (by omega) (La) H1).mono ?_
          rintro e w5 ⟨rfl, hb5⟩
          have X5 : Hid (Box w w5 x0 x1) := HXR.out.later hb5 HXR.out.lt
          have d0 := X5.out.c0
          have d1 := X5.out.c1
          have L5 : Hid (Below w.heap.size w w5) := LR.out.trans (hb5.mono LR.out.size)
          clear hb5 c0 c1
          go_wp2_with fail
          refine (poly_any x0 x1 (n + 1) (n + 1) (some ⟨w2.heap.size, 0, none⟩) w5 (by omega) (La) H2).mono ?_
          rintro e w6 ⟨rfl, hb6⟩
          have L6 : Below w.heap.size w w6 := L5.out.trans (hb6.mono L5.out.size)
          clear hb6 d0 d1
          go_wp2_with (first | (go_at_call 12; refine (halvings_any n _ hge (by omega) La H1).mono ?_; rintro e w7 ⟨rfl, rfl⟩) | (go_at_call 13; refine (pow2_any n _ hge (by omega) false HR).mono ?_; rintro e w8 ⟨rfl, rfl⟩))
          go_ret
          exact ⟨rfl, L6⟩

set_option maxHeartbeats 1000000 in
theorem walkB_nil (x0 x1 y : Nat) (w : World) :
    Calls Try.prog 4 #[.agg #[.float .f64 x0, .float .f64 x1], .slice none 0 0, .float .f64 y] w fun e w' => e = .returned (.bool true) ∧ Below w.heap.size w w' := by
  obtain ⟨i22, hi22, hz0, hz1, hz2⟩ := info_parts info22
  go_enter Try.func4, Try.ntmps4
  go_wp2_with (first
    | (go_at_call 11; refine (bytes11_yes x0 x1 y 0 0 none _ (by omega)).mono ?_; rintro e W1 ⟨rfl, hb1⟩; have X1 := Box.first w W1 x0 x1 hb1; have L1 := lowly w W1 x0 x1 hb1; clear hb1)
    | (at_make; refine wpList_make_full _ rfl (.tmp 33) (.tmp 33) 24 rfl W1.heap.size 22 i22 (.float .f64 0) 1 Try.underlying24 hi22 hz0 hz1 .i64 .i64 1 1 1 rfl rfl (by omega) (by omega) (by rw [hz2]; omega) (by unfold maxLen; omega) (Nat.le_refl _) ?_; intro wq hown3 hgrow3)
    | fail)
  have B3 : Below W1.heap.size W1 wq := (Below.refl _ _).grown hgrow3 (Nat.le_refl _) (by simp)
  obtain ⟨cur, r1, -, -, r2, -, -⟩ := ownsRow_block hown3
  obtain ⟨v2, e2⟩ : ∃ v2, cur[0]? = some v2 := ⟨_, List.getElem?_eq_getElem (by omega)⟩
  have k2 : wq.cell? ⟨W1.heap.size, 0, none⟩ = some v2 := cell_row r1 e2
  have f2 : wq.frozen? ⟨W1.heap.size, 0, none⟩ = false := free_row r1
  have B4 : Below W1.heap.size W1 (wq.setCell ⟨W1.heap.size, 0, none⟩ (.float .f64 y)) := B3.setCell (Nat.le_refl _) _
  have HXR : Hid (Box w (wq.setCell ⟨W1.heap.size, 0, none⟩ (.float .f64 y)) x0 x1) := X1.later B4 X1.lt
  have LR : Hid (Below w.heap.size w (wq.setCell ⟨W1.heap.size, 0, none⟩ (.float .f64 y))) := L1.trans (B4.mono (Nat.le_of_lt X1.lt))
  have c0 := HXR.out.c0
  have c1 := HXR.out.c1
  clear hown3 hgrow3 X1 L1 B3 B4 r1 r2 e2
  refine wp_loop_rounds 1 ?_
  rw [rounds_succ]
  go_wp2_with fail
  refine (poly_any x0 x1 0 0 none (wq.setCell ⟨W1.heap.size, 0, none⟩ (.float .f64 y)) (by omega) 64 lev_zero).mono ?_
  rintro e w5 ⟨rfl, hb5⟩
  have X5 : Hid (Box w w5 x0 x1) := HXR.out.later hb5 HXR.out.lt
  have d0 := X5.out.c0
  have d1 := X5.out.c1
  have L5 : Hid (Below w.heap.size w w5) := LR.out.trans (hb5.mono LR.out.size)
  clear hb5 c0 c1
  go_wp2_with fail
  refine (poly_any x0 x1 1 1 (some ⟨W1.heap.size, 0, none⟩) w5 (by omega) 1 lev_one).mono ?_
  rintro e w6 ⟨rfl, hb6⟩
  have L6 : Below w.heap.size w w6 := L5.out.trans (hb6.mono L5.out.size)
  clear hb6 d0 d1
  go_wp2_with (go_at_call 9; refine (wordBits_any _).mono ?_; rintro e w7 ⟨rfl, rfl⟩)
  go_ret
  exact ⟨rfl, L6⟩
end Go.Proofs.Qxb6615466a
