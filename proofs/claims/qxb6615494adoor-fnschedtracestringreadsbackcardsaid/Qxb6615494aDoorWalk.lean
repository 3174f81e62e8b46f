import Derived.Test.Qxb6615494aDoorChain
namespace Go.Proofs.Qxb6615494aDoor
open Go.RowKit
set_option linter.unusedVariables false

/-- The queues still lie there, and all that the caller had is as it was. -/
def Now (w0 : World) (la : Option Addr) (ln : Nat) (zs : List Int) (qb : Nat) (W : World) : Prop := Qu W la ln zs qb ∧ Below w0.heap.size w0 W

theorem Now.later {w0 W W' : World} {la : Option Addr} {ln : Nat} {zs : List Int} {qb : Nat} (h : Now w0 la ln zs qb W) (hb : Below W.heap.size W W') : Now w0 la ln zs qb W' := ⟨h.1.later hb, h.2.trans (hb.mono h.2.size)⟩
theorem below_drewN (W : World) (n : Nat) : Below W.heap.size W (W.drewN n) := by
  induction n with
  | zero => exact Below.refl _ _
  | succ n ih => exact ih.drew

theorem field_now {s lit : ByteArray} {p q : Nat} {v : Int} (F : Hid (FieldAt s lit p v q)) {w0 W : World} {la : Option Addr} {ln : Nat} {zs : List Int} {qb : Nat} (h : Hid (Now w0 la ln zs qb W)) :
    Calls Tryd.prog 8 #[.string s, .int .i64 p, .string lit] W fun e w' => e = .returned (.tuple #[.int .i64 v, .int .i64 (q : Int), .bool true]) ∧ Hid (Now w0 la ln zs qb w') := by
  refine (F.out W).mono ?_
  rintro e w' ⟨rfl, n, rfl⟩
  exact ⟨rfl, h.out.later (below_drewN W n)⟩
theorem exp_now {s lit : ByteArray} {p q : Nat} (F : Hid (ExpAt s lit p q)) {w0 W : World} {la : Option Addr} {ln : Nat} {zs : List Int} {qb : Nat} (h : Hid (Now w0 la ln zs qb W)) :
    Calls Tryd.prog 9 #[.string s, .int .i64 p, .string lit] W fun e w' => e = .returned (.tuple #[.int .i64 (q : Int), .bool true]) ∧ Hid (Now w0 la ln zs qb w') := by
  refine (F.out W).mono ?_
  rintro e w' ⟨rfl, n, rfl⟩
  exact ⟨rfl, h.out.later (below_drewN W n)⟩

theorem whole_ms (at_ : Int) (h : inI at_) : inI (at_ - at_.tmod 1000000) ∧ (at_ - at_.tmod 1000000).tdiv 1000000 = at_.tdiv 1000000 ∧ inI (at_.tdiv 1000000) := by
  obtain ⟨h1, h2⟩ := h
  have e := Int.tmod_add_mul_tdiv at_ 1000000
  have e2 : at_ - at_.tmod 1000000 = 1000000 * at_.tdiv 1000000 := by omega
  rw [e2]
  refine ⟨?_, Int.mul_tdiv_cancel_left _ (by decide), ?_⟩
  · unfold inI
    rcases Int.le_total 0 at_ with hp | hp
    · have := Int.tmod_nonneg 1000000 hp
      have := Int.tdiv_nonneg hp (show (0 : Int) ≤ 1000000 by decide)
      omega
    · have h3 : at_.tmod 1000000 ≤ 0 := by
        have := Int.neg_tmod at_ 1000000
        have h4 := Int.tmod_nonneg 1000000 (show 0 ≤ -at_ by omega)
        rw [Int.neg_tmod] at h4
        omega
      have h5 : at_.tdiv 1000000 ≤ 0 := by
        have h4 := Int.tdiv_nonneg (show 0 ≤ -at_ by omega) (show (0 : Int) ≤ 1000000 by decide)
        rw [Int.neg_tdiv] at h4
        omega
      omega
  · unfold inI
    rcases Int.le_total 0 at_ with hp | hp
    · have := Int.tmod_nonneg 1000000 hp
      have := Int.tdiv_nonneg hp (show (0 : Int) ≤ 1000000 by decide)
      omega
    · have h3 : at_.tmod 1000000 ≤ 0 := by
        have h4 := Int.tmod_nonneg 1000000 (show 0 ≤ -at_ by omega)
        rw [Int.neg_tmod] at h4
        omega
      have h5 : at_.tdiv 1000000 ≤ 0 := by
        have h4 := Int.tdiv_nonneg (show 0 ≤ -at_ by omega) (show (0 : Int) ≤ 1000000 by decide)
        rw [Int.neg_tdiv] at h4
        omega
      omega

/-- A SchedTrace's box in memory. -/
def boxOf (at_ i1 i2 i3 i4 i5 : Int) (q : Value) : Obj := .cells #[.int .i64 at_, .int .i64 i1, .int .i64 i2, .int .i64 i3, .int .i64 i4, .int .i64 i5, q] 27 (0, 0)
def Box (W : World) (b : Nat) (at_ i1 i2 i3 i4 i5 : Int) (q : Value) : Prop := W.heap[b]? = some (boxOf at_ i1 i2 i3 i4 i5 q)
theorem Box.cells {W : World} {b : Nat} {at_ i1 i2 i3 i4 i5 : Int} {q : Value} (h : Box W b at_ i1 i2 i3 i4 i5 q) :
    b < W.heap.size ∧ W.cell? ⟨b, 0, none⟩ = some (.int .i64 at_) ∧ W.cell? ⟨b, 1, none⟩ = some (.int .i64 i1) ∧ W.cell? ⟨b, 2, none⟩ = some (.int .i64 i2) ∧ W.cell? ⟨b, 3, none⟩ = some (.int .i64 i3) ∧ W.cell? ⟨b, 4, none⟩ = some (.int .i64 i4) ∧ W.cell? ⟨b, 5, none⟩ = some (.int .i64 i5) ∧ W.cell? ⟨b, 6, none⟩ = some q := by
  unfold Box boxOf at h
  refine ⟨lt_of_block h, ?_, ?_, ?_, ?_, ?_, ?_, ?_⟩ <;> simp [World.cell?, h]

set_option maxRecDepth 100000
set_option maxHeartbeats 4000000 in
theorem law_front (at_ wh ms i1 i2 i3 i4 i5 : Int) (la0 la : Option Addr) (ln lc lc1 : Nat) (zs : List Int) (qb : Nat) (w : World) (hn : ln ≤ 65536) (s : ByteArray)
    (HC : Hid (Calls Tryd.prog 5 #[.slice la0 ln lc] w fun e w' => e = .returned (.slice la ln lc1) ∧ Hid (Now w la ln zs qb w')))
    (HW : Hid (wrap64 (at_ - at_.tmod 1000000) = wh))
    (HST : Hid (∀ (x : Int) (W : World), (x = at_ ∨ x = wh) → Now w la ln zs qb W → Calls Tryd.prog 7 #[.agg #[.int .i64 x, .int .i64 i1, .int .i64 i2, .int .i64 i3, .int .i64 i4, .int .i64 i5, .slice la ln lc1]] W fun e w' => e = .returned (.string s) ∧ Below W.heap.size W w'))
    (hsz : s.size ≤ 1073741824) (p1 p2 p3 p4 p5 p6 p7 p8 p9 : Nat) (b9 : p9 ≤ 1073741824) (HMS : Hid (wrap64 (at_.tdiv 1000000) = ms))
    (F1 : Hid (FieldAt s ⟨#[83, 67, 72, 69, 68, 32]⟩ 0 ms p1)) (F2 : Hid (FieldAt s ⟨#[109, 115, 58, 32, 103, 111, 109, 97, 120, 112, 114, 111, 99, 115, 61]⟩ p1 ln p2)) (F3 : Hid (FieldAt s ⟨#[32, 105, 100, 108, 101, 112, 114, 111, 99, 115, 61]⟩ p2 i1 p3)) (F4 : Hid (FieldAt s ⟨#[32, 116, 104, 114, 101, 97, 100, 115, 61]⟩ p3 i2 p4)) (F5 : Hid (FieldAt s ⟨#[32, 115, 112, 105, 110, 110, 105, 110, 103, 116, 104, 114, 101, 97, 100, 115, 61]⟩ p4 i3 p5)) (F6 : Hid (FieldAt s ⟨#[32, 110, 101, 101, 100, 115, 112, 105, 110, 110, 105, 110, 103, 61]⟩ p5 0 p6)) (F7 : Hid (FieldAt s ⟨#[32, 105, 100, 108, 101, 116, 104, 114, 101, 97, 100, 115, 61]⟩ p6 i4 p7)) (F8 : Hid (FieldAt s ⟨#[32, 114, 117, 110, 113, 117, 101, 117, 101, 61]⟩ p7 i5 p8)) (F9 : Hid (ExpAt s ⟨#[32, 91]⟩ p8 p9)) (A9 : Hid (Left s p9 (rem zs ln 0))) :
    Calls Tryd.prog 3 #[.int .i64 at_, .int .i64 i1, .int .i64 i2, .int .i64 i3, .int .i64 i4, .int .i64 i5, .slice la0 ln lc] w fun e w' => e = .returned (.bool true) ∧ Below w.heap.size w w' := by
  go_enter Tryd.func3, Tryd.ntmps3
  go_wp2_with (first
    | (go_at_call 4; refine (bytes_yes at_ i1 i2 i3 i4 i5 la0 ln lc _ hn).mono ?_; rintro e w' ⟨rfl, rfl⟩)
    | (go_at_call 5; refine HC.out.mono ?_; rintro e w1 ⟨rfl, N1⟩)
    | fail)
  refine (new_any at_ i1 i2 i3 i4 i5 la ln lc1 w1).mono ?_
  rintro e w2 ⟨rfl, B2⟩
  have N2 : Hid (Now w la ln zs qb w2) := N1.out.later B2
  clear B2 N1
  go_wp2_with fail
  rw [HW.out]
  refine (new_any wh i1 i2 i3 i4 i5 la ln lc1 _).mono ?_
  rintro e w3 ⟨rfl, B3⟩
  have X3 : Hid (Box w3 w2.heap.size at_ i1 i2 i3 i4 i5 (.slice la ln lc1)) := (B3.block _ (by simp)).trans (heap_alloc_new w2 _)
  have N3 : Hid (Now w la ln zs qb w3) := (N2.out.later ((Below.refl _ _).alloc (Nat.le_refl _) _)).later B3
  obtain ⟨hlt, c0, c1, c2, c3, c4, c5, c6⟩ := X3.out.cells
  clear B3
  go_wp2_with fail
  refine (HST.out at_ _ (.inl rfl) (N3.out.later ((Below.refl _ _).alloc (Nat.le_refl _) _))).mono ?_
  rintro e w4 ⟨rfl, B4⟩
  have X4 : Hid (Box w4 w3.heap.size wh i1 i2 i3 i4 i5 (.slice la ln lc1)) := (B4.block _ (by simp)).trans (heap_alloc_new w3 _)
  have N4 : Hid (Now w la ln zs qb w4) := (N3.out.later ((Below.refl _ _).alloc (Nat.le_refl _) _)).later B4
  clear B4 c0 c1 c2 c3 c4 c5 c6 hlt
  obtain ⟨hlt, c0, c1, c2, c3, c4, c5, c6⟩ := X4.out.cells
  go_wp2_with fail
  refine (HST.out wh _ (.inr rfl) N4.out).mono ?_
  rintro e w5 ⟨rfl, B5⟩
  have N5 : Hid (Now w la ln zs qb w5) := N4.out.later B5
  clear B5 c0 c1 c2 c3 c4 c5 c6 hlt N4 N3 N2 X3 X4
  have hms := HMS.out
  go_wp2_with fail
  refine (field_now F1 N5).mono ?_
  rintro e w6 ⟨rfl, N6⟩
  clear N5
  go_wp2_with fail
  refine (field_now F2 N6).mono ?_
  rintro e w7 ⟨rfl, N7⟩
  clear N6
  go_wp2_with fail
  refine (field_now F3 N7).mono ?_
  rintro e w8 ⟨rfl, N8⟩
  clear N7
  go_wp2_with fail
  refine (field_now F4 N8).mono ?_
  rintro e w9 ⟨rfl, N9⟩
  clear N8
  go_wp2_with fail
  refine (field_now F5 N9).mono ?_
  rintro e w10 ⟨rfl, N10⟩
  clear N9
  go_wp2_with fail
  refine (field_now F6 N10).mono ?_
  rintro e w11 ⟨rfl, N11⟩
  clear N10
  go_wp2_with fail
  refine (field_now F7 N11).mono ?_
  rintro e w12 ⟨rfl, N12⟩
  clear N11
  go_wp2_with fail
  refine (field_now F8 N12).mono ?_
  rintro e w13 ⟨rfl, N13⟩
  clear N12
  go_wp2_with fail
  refine (exp_now F9 N13).mono ?_
  rintro e w14 ⟨rfl, N14⟩
  clear N13 F1 F2 F3 F4 F5 F6 F7 F8 F9 HST HW HC HMS hms
  go_wp2_with fail
  go_loopw [20, 22] (fun pv i wr => ∃ k p : Nat, k ≤ ln ∧ i = .int .i64 k ∧ pv = .int .i64 p ∧ p ≤ 1073741824 ∧ Hid (Left s p (rem zs (ln - k) k)) ∧ Hid (Now w la ln zs qb wr)) (fun _ i _ => ln - (intOf i).toNat)
  case atStart => exact ⟨0, p9, Nat.zero_le _, rfl, rfl, b9, A9, N14⟩
  case round =>
    obtain ⟨k, p, hk, rfl, rfl, hp, AL, NL⟩ := hrel
    clear A9 N14 b9
    by_cases hlt : k < ln
    · have hc := NL.out.1.cells k hlt
      rcases NL.out.1.la with hla | hla
      · subst hla
        obtain ⟨hqb, hqc, hq1, hq2⟩ := hc
        obtain ⟨z, ez⟩ : ∃ z, z = zs.getD k 0 := ⟨_, rfl⟩
        rw [← ez] at hqc hq1 hq2
        have HZ : Hid (z = zs.getD k 0) := ez
        have HAL := AL.out
        have ed : ln - k = (ln - (k + 1)) + 1 := by omega
        rw [ed] at HAL
        unfold rem at HAL
        rw [← ez] at HAL
        by_cases hk0 : k = 0
        · subst hk0
          simp only [Nat.lt_irrefl, if_false, List.nil_append] at HAL
          obtain ⟨q, R, HAQ⟩ := read_step s p z _ ⟨hq1, hq2⟩ hsz HAL (rem_shut _ _ _)
          have hq := HAQ.le
          have AQ : Hid (Left s q (rem zs (ln - (0 + 1)) (0 + 1))) := HAQ
          clear HAL HAQ ez ed hqb
          go_wp2_with (go_at_call 10; refine (R.out _).mono ?_; rintro e w15 ⟨rfl, rfl⟩)
          go_roundw
          case rel => exact ⟨1, q, by omega, by go_num, rfl, by omega, AQ, NL⟩
          case measure => simp [intOf]; omega
        · have hkp : 0 < k := by omega
          rw [if_pos hkp] at HAL
          obtain ⟨q0, E, HA0⟩ := exp_step s ⟨#[32]⟩ p [32] _ hsz HAL rfl
          obtain ⟨q, R, HAQ⟩ := read_step s q0 z _ ⟨hq1, hq2⟩ hsz HA0 (rem_shut _ _ _)
          have hq := HAQ.le
          have AQ : Hid (Left s q (rem zs (ln - (k + 1)) (k + 1))) := HAQ
          clear HAL HAQ HA0 ez ed hqb hqc
          go_wp2_with fail
          refine (exp_now E NL).mono ?_
          rintro e w15 ⟨rfl, N15⟩
          have hqc : w15.cell? ⟨qb, k, none⟩ = some (.int .i64 z) := by rw [HZ.out]; exact (N15.out.1.cells k hlt).2.1
          go_wp2_with (go_at_call 10; refine (R.out _).mono ?_; rintro e w15 ⟨rfl, rfl⟩)
          go_roundw
          case rel => exact ⟨k + 1, q, by omega, by go_num, rfl, by omega, AQ, N15⟩
          case measure => simp [intOf]; omega
      · omega
    · obtain rfl : k = ln := by omega
      have HAL := AL.out
      rw [Nat.sub_self] at HAL
      unfold rem at HAL
      obtain ⟨q, E, HAQ⟩ := exp_step s ⟨#[93]⟩ p [93] [] hsz HAL rfl
      have hqs : q = s.size := by have := HAQ.2; simpa using this
      subst hqs
      clear HAL HAQ
      go_wp2_with fail
      refine (exp_now E NL).mono ?_
      rintro e w15 ⟨rfl, N15⟩
      go_wp2_with fail
      go_ret
      exact ⟨rfl, N15.out.2⟩

set_option maxHeartbeats 1000000 in
theorem law_big (at_ i1 i2 i3 i4 i5 : Int) (la : Option Addr) (n c : Nat) (w : World) (hm : n ≤ maxLen) (h : 65536 < n) :
    Calls Tryd.prog 3 #[.int .i64 at_, .int .i64 i1, .int .i64 i2, .int .i64 i3, .int .i64 i4, .int .i64 i5, .slice la n c] w fun e w' => e = .returned (.bool true) ∧ Below w.heap.size w w' := by
  unfold maxLen at hm
  have h1 : (65536 : Int) < (n : Int) := by omega
  by_cases hb : 1048576 < n
  · go_enter Tryd.func3, Tryd.ntmps3
    go_wp2
    go_ret
    exact ⟨rfl, Below.refl _ _⟩
  · go_enter Tryd.func3, Tryd.ntmps3
    go_wp2
    go_ret
    exact ⟨rfl, Below.refl _ _⟩

/-- A slice of ints that came in: nil, or the elements' cells. -/
def IsInts (w : World) (a : Option Addr) (n : Nat) (zs : List Int) : Prop := (a = none ∧ n = 0) ∨ ∃ x, a = some x ∧ Src w x n zs

theorem wrap_in {i : Int} (h : inI i) : wrap64 i = i := by
  obtain ⟨h1, h2⟩ := h
  unfold wrap64
  omega

theorem law_all (at_ i1 i2 i3 i4 i5 : Int) (la : Option Addr) (n c : Nat) (zs : List Int) (w : World) (ht : Lib.TabIs Tryd.prog w powName .u64 Lib.pow10Tab) (hm : n ≤ maxLen) (hc : la = none → c = 0) (h0 : inI at_) (h1 : inI i1) (h2 : inI i2) (h3 : inI i3) (h4 : inI i4) (h5 : inI i5) (hz : IsInts w la n zs) :
    Calls Tryd.prog 3 #[.int .i64 at_, .int .i64 i1, .int .i64 i2, .int .i64 i3, .int .i64 i4, .int .i64 i5, .slice la n c] w fun e w' => e = .returned (.bool true) ∧ Below w.heap.size w w' := by
  by_cases hb : 65536 < n
  · exact law_big at_ i1 i2 i3 i4 i5 la n c w hm hb
  · have hn : n ≤ 65536 := by omega
    obtain ⟨hw1, hw2, hw3⟩ := whole_ms at_ h0
    have hin : ∀ k, k < n → inI (zs.getD k 0) := by
      intro k hk
      rcases hz with ⟨_, h⟩ | ⟨x, _, h⟩
      · omega
      · exact (h k hk).2
    have htb := Lib.tabBelow_of_tabIs ht
    have ek : ∀ x : Int, IntKind.i64.wrap x = wrap64 x := fun x => by rw [IntKind.wrap_i64, wrap64]
    obtain ⟨hsz, p1, p2, p3, p4, p5, p6, p7, p8, p9, ⟨-, -, -, -, -, -, -, -, b9⟩, F1, F2, F3, F4, F5, F6, F7, F8, F9, A9⟩ := chain (at_.tdiv 1000000) i1 i2 i3 i4 i5 zs n _ hn hw3 h1 h2 h3 h4 h5 hin rfl
    have ST : ∀ (la' : Option Addr) (lc1 qb : Nat) (x : Int) (W : World), (x = at_ ∨ x = at_ - at_.tmod 1000000) → Now w la' n zs qb W → Calls Tryd.prog 7 #[.agg #[.int .i64 x, .int .i64 i1, .int .i64 i2, .int .i64 i3, .int .i64 i4, .int .i64 i5, .slice la' n lc1]] W fun e w' => e = .returned (.string ⟨(line (at_.tdiv 1000000) i1 i2 i3 i4 i5 zs n).toArray⟩) ∧ Below W.heap.size W w' := by
      intro la' lc1 qb x W hx hN
      refine string_any x (at_.tdiv 1000000) i1 i2 i3 i4 i5 la' n lc1 zs qb W _ rfl (htb _ hN.2) ?_ hw3 h1 h2 h3 h4 h5 hN.1
      unfold Hid
      rw [ek]
      rcases hx with rfl | rfl
      · exact wrap_in hw3
      · rw [hw2]; exact wrap_in hw3
    rcases hz with ⟨rfl, rfl⟩ | ⟨x, rfl, hS⟩
    · obtain rfl := hc rfl
      refine law_front at_ (at_ - at_.tmod 1000000) (at_.tdiv 1000000) i1 i2 i3 i4 i5 none none 0 0 0 zs 0 w hn _ ?_ (wrap_in hw1) (fun x W hx hN => ST none 0 0 x W hx hN) hsz p1 p2 p3 p4 p5 p6 p7 p8 p9 b9 (wrap_in hw3) F1 F2 F3 F4 F5 F6 F7 F8 F9 A9
      refine (clone_nil w).mono ?_
      rintro e w' ⟨rfl, rfl⟩
      exact ⟨rfl, ⟨.inr rfl, fun k hk => by omega, by omega⟩, Below.refl _ _⟩
    · refine law_front at_ (at_ - at_.tmod 1000000) (at_.tdiv 1000000) i1 i2 i3 i4 i5 (some x) (some ⟨w.heap.size, 0, none⟩) n c n zs w.heap.size w hn _ ?_ (wrap_in hw1) (fun x W hx hN => ST _ n w.heap.size x W hx hN) hsz p1 p2 p3 p4 p5 p6 p7 p8 p9 b9 (wrap_in hw3) F1 F2 F3 F4 F5 F6 F7 F8 F9 A9
      refine (clone_row x n c zs w hS hn).mono ?_
      rintro e w' ⟨rfl, hQ, hB⟩
      exact ⟨rfl, hQ, hB⟩

end Go.Proofs.Qxb6615494aDoor
