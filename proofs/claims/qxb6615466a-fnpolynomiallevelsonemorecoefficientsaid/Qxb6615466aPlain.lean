import Derived.Lib.BitFns
namespace Go.Proofs.Qxb6615466a
open Go.Lib

/-- The levels of n coefficients, as the program reckons them. -/
def lev (n : Nat) : Nat := if n = 0 then 64 else if bitLen (n - 1) = 0 then 1 else bitLen (n - 1)

/-- Does one bit more come at m? -/
def newBit (m : Nat) : Bool := decide (bitLen m = bitLen (m - 1) + 1)

theorem bitLen_zero : bitLen 0 = 0 := by decide
theorem bitLen_one : bitLen 1 = 1 := by decide

theorem half (x : Nat) (h0 : 0 < x) (h : x < 18446744073709551616) : bitLen x = 1 + bitLen (x / 2) := bitLen_half x (by omega) h

theorem pos_of (x : Nat) (h0 : 0 < x) (h : x < 18446744073709551616) : 0 < bitLen x := by rw [half x h0 h]; omega

theorem lev_pos (n : Nat) (h : 2 ≤ n) (hb : n < 18446744073709551616) : lev n = bitLen (n - 1) := by
  unfold lev
  have := pos_of (n - 1) (by omega) (by omega)
  rw [if_neg (by omega), if_neg (by omega)]

theorem lev_one : lev 1 = 1 := by decide
theorem lev_two : lev 2 = 1 := by decide
theorem lev_zero : lev 0 = 64 := by decide

theorem lev_double (n : Nat) (h : 2 ≤ n) (hb : n < 9223372036854775808) : lev (2 * n) = lev n + 1 := by
  rw [lev_pos n h (by omega), lev_pos (2 * n) (by omega) (by omega), half (2 * n - 1) (by omega) (by omega)]
  have e : (2 * n - 1) / 2 = n - 1 := by omega
  rw [e]; omega

/-- x < 2^k just where k bits serve. -/
theorem lt_pow_of_bitLen : ∀ (k x : Nat), x < 18446744073709551616 → (x < 2 ^ k ↔ bitLen x ≤ k)
  | 0, x, h => by
    constructor
    · intro hx
      have : x = 0 := by simpa using hx
      subst this; simp [bitLen_zero]
    · intro hx
      by_cases h0 : x = 0
      · subst h0; simp
      · have := pos_of x (by omega) h; omega
  | k + 1, x, h => by
    by_cases h0 : x = 0
    · subst h0
      simp [bitLen_zero]
      exact Nat.pow_pos (by omega)
    · rw [half x (by omega) h, Nat.pow_succ]
      have ih := lt_pow_of_bitLen k (x / 2) (by omega)
      constructor
      · intro hx
        have := ih.1 (by omega)
        omega
      · intro hx
        have := ih.2 (by omega)
        omega

/-- The least L from 1 on with n ≤ 2^L. -/
theorem least_is_lev (n l : Nat) (h1 : 1 ≤ n) (hb : n < 18446744073709551616) (hl : 1 ≤ l) (hlow : l = 1 ∨ 2 ^ (l - 1) < n) (hup : n ≤ 2 ^ l) : l = lev n := by
  have a := (lt_pow_of_bitLen l (n - 1) (by omega)).1 (by omega)
  by_cases hn : n = 1
  · subst hn
    rw [lev_one]
    rcases hlow with h | h
    · exact h
    · have : 0 < 2 ^ (l - 1) := Nat.pow_pos (by omega)
      omega
  · rw [lev_pos n (by omega) hb]
    have p := pos_of (n - 1) (by omega) (by omega)
    rcases hlow with h | h
    · omega
    · have b : ¬ bitLen (n - 1) ≤ l - 1 := fun hc => by
        have := (lt_pow_of_bitLen (l - 1) (n - 1) (by omega)).2 hc
        omega
      omega

theorem lev_next (n : Nat) (h : 2 ≤ n) (hb : n < 18446744073709551615) : lev (n + 1) = bitLen n := by
  rw [lev_pos (n + 1) (by omega) (by omega)]; rfl

theorem bit_step (m : Nat) (h : 1 ≤ m) (hb : m < 18446744073709551616) : bitLen m = bitLen (m - 1) + 1 ∨ bitLen m = bitLen (m - 1) := by
  induction m using Nat.strongRecOn with
  | _ m ih =>
    by_cases h1 : m = 1
    · subst h1; left; decide
    · by_cases he : m % 2 = 0
      · have := ih (m / 2) (by omega) (by omega) (by omega)
        rw [half m (by omega) hb, half (m - 1) (by omega) (by omega)]
        have e : (m - 1) / 2 = m / 2 - 1 := by omega
        rw [e]
        omega
      · right
        rw [half m (by omega) hb, half (m - 1) (by omega) (by omega)]
        have e : (m - 1) / 2 = m / 2 := by omega
        rw [e]

theorem newBit_half (m : Nat) (h : 2 ≤ m) (he : m % 2 = 0) (hb : m < 18446744073709551616) : newBit (m / 2) = newBit m := by
  unfold newBit
  have e : (m - 1) / 2 = m / 2 - 1 := by omega
  rw [half m (by omega) hb, half (m - 1) (by omega) (by omega), e]
  rw [Bool.eq_iff_iff]
  simp only [decide_eq_true_eq]
  omega

theorem newBit_odd (m : Nat) (ho : m % 2 = 1) (hb : m < 18446744073709551616) : newBit m = decide (m = 1) := by
  unfold newBit
  by_cases h1 : m = 1
  · subst h1; decide
  · have e : (m - 1) / 2 = m / 2 := by omega
    rw [half m (by omega) hb, half (m - 1) (by omega) (by omega), e]
    simp [h1]

theorem lev_more (n : Nat) (h : 2 ≤ n) (hb : n < 18446744073709551615) : lev (n + 1) = if newBit n then lev n + 1 else lev n := by
  rw [lev_next n h hb, lev_pos n h (by omega)]
  unfold newBit
  rcases bit_step n (by omega) (by omega) with e | e
  · simp [e]
  · simp [e]

/-- One halving, rounded up. -/
theorem halving (m : Nat) (h : 2 ≤ m) (hb : m < 18446744073709551616) : bitLen (m - 1) = 1 + bitLen ((m + 1) / 2 - 1) := by
  rw [half (m - 1) (by omega) (by omega)]
  have e : (m - 1) / 2 = (m + 1) / 2 - 1 := by omega
  rw [e]
end Go.Proofs.Qxb6615466a
