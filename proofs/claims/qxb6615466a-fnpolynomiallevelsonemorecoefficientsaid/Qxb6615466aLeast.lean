import Derived.Test.Qxb6615466aLeaf
namespace Go.Proofs.Qxb6615466a
open Go.RowKit
set_option linter.unusedVariables false

theorem shl_eq (k : Nat) (h : k ≤ 20) : wrap64 ((2 : Int) ^ k) = ((2 ^ k : Nat) : Int) := by
  have h1 : (2 : Nat) ^ k ≤ 2 ^ 20 := Nat.pow_le_pow_right (by omega) h
  have h2 : ((2 : Int) ^ k) = ((2 ^ k : Nat) : Int) := by simp
  rw [h2]
  have h3 : (2 : Nat) ^ k ≤ 1048576 := h1
  clear h1 h2
  generalize (2 : Nat) ^ k = y at *
  unfold wrap64
  omega

set_option maxHeartbeats 400000 in
/-- zzLeastLevels. -/
theorem least_any (n : Nat) (w : World) (h1 : 1 ≤ n) (hb : n ≤ 1048576) (L : Nat) (HL : Hid (lev n = L)) :
    Calls Try.prog 10 #[.int .i64 n] w fun e w' => e = .returned (.int .i64 L) ∧ w = w' := by
  go_enter Try.func10, Try.ntmps10
  go_wp2
  go_loop [3] (fun l => ∃ k : Nat, 1 ≤ k ∧ k ≤ 20 ∧ Hid (k = 1 ∨ 2 ^ (k - 1) < n) ∧ l = .int .i64 k) (fun l => 20 - (intOf l).toNat)
  case atStart => exact ⟨1, by omega, by omega, .inl rfl, rfl⟩
  case round =>
    obtain ⟨k, hk1, hk2, HP, rfl⟩ := hrel
    have hsh := shl_eq k hk2
    by_cases hlt : wrap64 ((2 : Int) ^ k) < (n : Int)
    · have hp : 2 ^ k < n := by rw [hsh] at hlt; omega
      have hk3 : k + 1 ≤ 20 := by
        by_cases e : k = 20
        · subst e; omega
        · omega
      have HP2 : Hid (k + 1 = 1 ∨ 2 ^ (k + 1 - 1) < n) := .inr hp
      clear hp hsh
      go_wp2
      go_round
      case rel => exact ⟨k + 1, by omega, hk3, HP2, by go_num⟩
      case measure => simp [intOf]; omega
    · have hp : n ≤ 2 ^ k := by rw [hsh] at hlt; omega
      have HK : Hid (k = lev n) := least_is_lev n k h1 (by omega) hk1 HP.out hp
      clear hp hsh
      go_wp2
      go_ret
      exact ⟨ret_int (by rw [← HL.out, ← HK.out]), rfl⟩
end Go.Proofs.Qxb6615466a
