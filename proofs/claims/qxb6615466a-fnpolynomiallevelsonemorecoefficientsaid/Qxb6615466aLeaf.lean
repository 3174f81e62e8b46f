import Derived.Test.Qxb6615466aBits
import Derived.Test.Qxb6615466aPlain
import Derived.WalkKit
import Derived.WalkSpells
import Derived.WalkLawsBesides
import Derived.Deep.LoopGhost
namespace Go.Proofs.Qxb6615466a
open Go.RowKit
set_option linter.unusedVariables false

theorem ret_int {k : IntKind} {a b : Int} (h : a = b) : Ending.returned (.int k a) = .returned (.int k b) := by rw [h]
theorem ret_bool {a b : Bool} (h : a = b) : Ending.returned (.bool a) = .returned (.bool b) := by rw [h]

set_option maxHeartbeats 400000 in
theorem poly_pos (x0 x1 n c : Nat) (a : Option Addr) (w : World) (hn : 1 ≤ n) (hb : n ≤ 1048576) (L : Nat) (HL : Hid (Lib.bitLen (n - 1) = L)) :
    Calls Try.prog 8 #[.agg #[.float .f64 x0, .float .f64 x1], .slice a n c] w fun e w' => e = .returned (.int .i64 (max 1 (L : Int))) ∧ Below w.heap.size w w' := by
  have C := fun (w : World) => bits_Len ((n : Int) - 1) w (by omega) (by omega)
  have e : ((n : Int) - 1).toNat = n - 1 := by omega
  rw [e] at C
  have h2 := HL.out
  rw [h2] at C
  have HC : Hid (∀ w, Calls Try.prog 24 #[.int .u64 ((n : Int) - 1)] w fun e w' => e = .returned (.int .i64 (L : Int)) ∧ w' = w) := C
  clear C e h2
  go_enter Try.func8, Try.ntmps8
  go_wp2_with (first | (go_at_call 24; refine (HC.out _).mono ?_; rintro e w' ⟨rfl, rfl⟩) | go_in)
  go_ret
  exact ⟨rfl, ((Below.refl _ _).alloc (Nat.le_refl _) _).alloc (by simp) _⟩

set_option maxHeartbeats 400000 in
theorem poly_zero (x0 x1 c : Nat) (a : Option Addr) (w : World) :
    Calls Try.prog 8 #[.agg #[.float .f64 x0, .float .f64 x1], .slice a 0 c] w fun e w' => e = .returned (.int .i64 64) ∧ Below w.heap.size w w' := by
  have C := fun (w : World) => bits_Len 18446744073709551615 w (by omega) (by omega)
  have e : Lib.bitLen (18446744073709551615 : Int).toNat = 64 := by decide +kernel
  rw [e] at C
  have HC : Hid (∀ w, Calls Try.prog 24 #[.int .u64 18446744073709551615] w fun e w' => e = .returned (.int .i64 64) ∧ w' = w) := C
  clear C e
  go_enter Try.func8, Try.ntmps8
  go_wp2_with (first | (go_at_call 24; refine (HC.out _).mono ?_; rintro e w' ⟨rfl, rfl⟩) | go_in)
  go_ret
  exact ⟨rfl, ((Below.refl _ _).alloc (Nat.le_refl _) _).alloc (by simp) _⟩

/-- ZZpolynomialLevels: 'lev' of the number of coefficients. -/
theorem poly_any (x0 x1 n c : Nat) (a : Option Addr) (w : World) (hb : n ≤ 1048576) (L : Nat) (HL : Hid (lev n = L)) :
    Calls Try.prog 8 #[.agg #[.float .f64 x0, .float .f64 x1], .slice a n c] w fun e w' => e = .returned (.int .i64 L) ∧ Below w.heap.size w w' := by
  have h := HL.out
  subst h
  by_cases h0 : n = 0
  · subst h0
    exact poly_zero x0 x1 c a w
  · refine (poly_pos x0 x1 n c a w (by omega) hb _ rfl).mono ?_
    rintro e w' ⟨rfl, hw⟩
    refine ⟨ret_int ?_, hw⟩
    unfold lev
    rw [if_neg h0]
    split <;> omega

theorem pow_sub_one (k : Nat) (h : k < 64) : 2 ^ (64 - k) - 1 = 2 * (2 ^ (64 - (k + 1)) - 1) + 1 := by
  have e : 64 - k = (64 - (k + 1)) + 1 := by omega
  rw [e, Nat.pow_succ]
  have : 0 < 2 ^ (64 - (k + 1)) := Nat.pow_pos (by omega)
  omega

set_option maxHeartbeats 400000 in
theorem wordBits_any (w : World) : Calls Try.prog 9 #[] w fun e w' => e = .returned (.int .i64 64) ∧ w = w' := by
  go_enter Try.func9, Try.ntmps9
  go_wp2
  go_loop [1, 2] (fun b x => ∃ k y : Nat, k ≤ 64 ∧ Hid (y = 2 ^ (64 - k) - 1) ∧ y ≤ 18446744073709551615 ∧ b = .int .i64 k ∧ x = .int .u64 y) (fun b _ => 64 - (intOf b).toNat)
  case atStart => exact ⟨0, 18446744073709551615, by omega, rfl, by omega, rfl, rfl⟩
  case round =>
    obtain ⟨k, y, hk, HY, hy, rfl, rfl⟩ := hrel
    by_cases hlt : k < 64
    · have hs := pow_sub_one k hlt
      have hyp : 0 < y := by have := HY.out; omega
      have HY2 : Hid (y / 2 = 2 ^ (64 - (k + 1)) - 1) := by have := HY.out; unfold Hid; omega
      have hne : ((y : Int) != 0) = true := by simp; omega
      clear hs
      go_wp2
      go_round
      case rel => exact ⟨k + 1, y / 2, by omega, HY2, by omega, by go_num, by go_num⟩
      case measure => simp [intOf]; omega
    · have h64 : k = 64 := by omega
      subst h64
      have h0 : y = 0 := by have := HY.out; simpa using this
      subst h0
      go_wp2
      go_ret
      exact ⟨rfl, rfl⟩

set_option maxHeartbeats 400000 in
/-- zzHalvings. -/
theorem halvings_any (n : Nat) (w : World) (h1 : 1 ≤ n) (hb : n ≤ 1048576) (L : Nat) (HL : Hid (lev n = L)) :
    Calls Try.prog 12 #[.int .i64 n] w fun e w' => e = .returned (.int .i64 L) ∧ w = w' := by
  go_enter Try.func12, Try.ntmps12
  go_wp2
  go_loop [3, 4] (fun l m => ∃ k y : Nat, 1 ≤ y ∧ y ≤ 1048576 ∧ k ≤ 64 ∧ Hid (Lib.bitLen (n - 1) = k + Lib.bitLen (y - 1)) ∧ l = .int .i64 k ∧ m = .int .i64 y) (fun _ m => (intOf m).toNat)
  case atStart => exact ⟨0, n, h1, hb, by omega, by unfold Hid; omega, rfl, rfl⟩
  case round =>
    obtain ⟨k, y, hy1, hy2, hk, HB, rfl, rfl⟩ := hrel
    have hn64 : Lib.bitLen (n - 1) ≤ 64 := (lt_pow_of_bitLen 64 (n - 1) (by omega)).1 (by omega)
    by_cases hlt : 1 < y
    · have hh := halving y (by omega) (by omega)
      have HB2 : Hid (Lib.bitLen (n - 1) = (k + 1) + Lib.bitLen ((y + 1) / 2 - 1)) := by have := HB.out; unfold Hid; omega
      have hk2 : k + 1 ≤ 64 := by have := HB2.out; omega
      clear hh hn64
      go_wp2
      go_round
      case rel => exact ⟨k + 1, (y + 1) / 2, by omega, by omega, hk2, HB2, by go_num, by go_num⟩
      case measure => simp [intOf]; omega
    · have e : y = 1 := by omega
      subst e
      have hk2 : Lib.bitLen (n - 1) = k := by have := HB.out; simpa [bitLen_zero] using this
      have hl : L = if k = 0 then 1 else k := by
        have := HL.out
        unfold lev at this
        rw [if_neg (by omega), hk2] at this
        exact this.symm
      have HLL : Hid (L = if k = 0 then 1 else k) := hl
      clear hn64 hk2 hl HB
      by_cases h0 : k < 1
      · have e0 : k = 0 := by omega
        subst e0
        go_wp2
        go_ret
        exact ⟨ret_int (by have := HLL.out; simp at this; omega), rfl⟩
      · go_wp2
        go_ret
        refine ⟨ret_int ?_, rfl⟩
        have := HLL.out
        rw [if_neg (by omega)] at this
        omega

set_option maxHeartbeats 400000 in
/-- zzPowerOfTwo. -/
theorem pow2_any (n : Nat) (w : World) (h1 : 1 ≤ n) (hb : n ≤ 1048576) (r : Bool) (HR : Hid (newBit n = r)) :
    Calls Try.prog 13 #[.int .i64 n] w fun e w' => e = .returned (.bool r) ∧ w = w' := by
  go_enter Try.func13, Try.ntmps13
  go_wp2
  go_loop [3] (fun m => ∃ y : Nat, 1 ≤ y ∧ y ≤ 1048576 ∧ Hid (newBit y = r) ∧ m = .int .i64 y) (fun m => (intOf m).toNat)
  case atStart => exact ⟨n, h1, hb, HR, rfl⟩
  case round =>
    obtain ⟨y, hy1, hy2, HY, rfl⟩ := hrel
    by_cases he : y % 2 = 0
    · have HY2 : Hid (newBit (y / 2) = r) := (newBit_half y (by omega) he (by omega)).trans HY.out
      have h2 : ((y : Int) % 2) = 0 := by omega
      go_wp2
      go_round
      case rel => exact ⟨y / 2, by omega, by omega, HY2, by go_num⟩
      case measure => simp [intOf]; omega
    · have h2 : ((y : Int) % 2) = 1 := by omega
      have HO : Hid (newBit y = decide (y = 1)) := newBit_odd y (by omega) (by omega)
      go_wp2
      go_ret
      refine ⟨ret_bool ?_, rfl⟩
      rw [← HY.out, HO.out]
      rw [Bool.eq_iff_iff]
      simp
      try omega
end Go.Proofs.Qxb6615466a
