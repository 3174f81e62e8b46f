import Derived.Test.Qxb6615494aDoorText
import Derived.Lib.ItoaLen
namespace Go.Proofs.Qxb6615494aDoor
open Go.RowKit
set_option linter.unusedVariables false

/-- The number that the first j of nd decimal digits of u make. -/
def pre (u nd j : Nat) : Nat := u / 10 ^ (nd - j)

theorem pre_all (u nd : Nat) : pre u nd nd = u := by unfold pre; simp
theorem pre_zero (u : Nat) : pre u (Lib.nDigits u) 0 = 0 := by unfold pre; exact Nat.div_eq_of_lt (Lib.lt_pow_nDigits u)
theorem pre_le (u nd j : Nat) : pre u nd j ≤ u := Nat.div_le_self _ _
theorem pre_succ (u nd j : Nat) (h : j < nd) : pre u nd (j + 1) = pre u nd j * 10 + u / 10 ^ (nd - 1 - j) % 10 := by
  unfold pre
  have e : nd - j = (nd - 1 - j) + 1 := by omega
  have e2 : nd - (j + 1) = nd - 1 - j := by omega
  rw [e2, e, Nat.pow_succ, ← Nat.div_div_eq_div_mul]
  omega

theorem digit_at (u j : Nat) (h : j < Lib.nDigits u) (h' : j < (Lib.decDigits u).length) : ((Lib.decDigits u)[j]).toNat = 48 + u / 10 ^ (Lib.nDigits u - 1 - j) % 10 := by
  have e : (Lib.decDigits u)[j]? = some (Lib.dg u (Lib.nDigits u - 1 - j)) := by
    rw [Lib.decDigits_eq]
    simp [h]
  rw [List.getElem?_eq_getElem h'] at e
  have e2 := Option.some.inj e
  rw [e2]
  unfold Lib.dg
  have : u / 10 ^ (Lib.nDigits u - 1 - j) % 10 < 10 := Nat.mod_lt _ (by omega)
  simp
  omega

/-- At place q the string ends, or no digit stands there. -/
def Ends (s : ByteArray) (q : Nat) : Prop := q = s.size ∨ ∃ h : q < s.size, (s[q]).toNat < 48 ∨ 57 < (s[q]).toNat

/-- What a round of the loop asks of the place that it reads. -/
theorem digit_here (s : ByteArray) (p u j : Nat) (h : HasAt s p (Lib.decDigits u)) (hj : j < Lib.nDigits u) :
    ∃ c : Nat, p + j < s.size ∧ 48 ≤ c ∧ c ≤ 57 ∧ pre u (Lib.nDigits u) (j + 1) = pre u (Lib.nDigits u) j * 10 + (c - 48) ∧
      ∀ (i : Int) (w : World), i = ((p + j : Nat) : Int) → (Instr.index 9 (.string s) (.int .i64 i)).run Tryd.prog w = .ok (.int .u8 (c : Int)) w := by
  have hl : j < (Lib.decDigits u).length := by rw [Lib.decDigits_length]; exact hj
  obtain ⟨h', e⟩ := h j hl
  have hd := digit_at u j hj hl
  have hm : u / 10 ^ (Lib.nDigits u - 1 - j) % 10 < 10 := Nat.mod_lt _ (by omega)
  refine ⟨((Lib.decDigits u)[j]).toNat, h', by omega, by omega, ?_, fun i w hi => ?_⟩
  · rw [pre_succ u _ j hj, hd]; omega
  · rw [index_at s (p + j) i hi h' w, e]

set_option maxHeartbeats 400000 in
theorem read_pos (s : ByteArray) (p u : Nat) (w : World) (hu : u ≤ 9223372036854775807) (h : HasAt s p (Lib.decDigits u)) (hs : s.size ≤ 1073741824) (he : Ends s (p + Lib.nDigits u)) :
    Calls Tryd.prog 10 #[.string s, .int .i64 p] w fun e w' => e = .returned (.tuple #[.int .i64 u, .int .i64 ((p + Lib.nDigits u : Nat) : Int), .bool true]) ∧ w = w' := by
  have hnd := Lib.nDigits_pos u
  obtain ⟨c0, hps, hc1, hc2, -, hix0⟩ := digit_here s p u 0 h (by omega)
  have hx0 := fun w => hix0 (p : Int) w (by omega)
  have H : Hid (HasAt s p (Lib.decDigits u)) := h
  have HE : Hid (Ends s (p + Lib.nDigits u)) := he
  obtain ⟨nd, end_⟩ : ∃ nd, nd = Lib.nDigits u := ⟨_, rfl⟩
  have HND : Hid (nd = Lib.nDigits u) := end_
  have h45 : ((c0 : Int) == 45) = false := beq_false_of_ne (by omega)
  have hp1 : p < s.size := by omega
  rw [← end_] at hnd ⊢
  clear h he hix0 end_ hps
  go_enter Tryd.func10, Tryd.ntmps10
  go_wp2
  go_loop [1, 9] (fun pos uu => ∃ j x : Nat, j ≤ nd ∧ Hid (x = pre u nd j) ∧ pos = .int .i64 ((p + j : Nat) : Int) ∧ uu = .int .u64 x) (fun pos _ => p + nd - (intOf pos).toNat)
  case atStart => exact ⟨0, 0, Nat.zero_le _, by rw [HND.out]; exact (pre_zero u).symm, rfl, rfl⟩
  case round =>
    obtain ⟨j, x, hj, HX, rfl, rfl⟩ := hrel
    by_cases hlt : j < nd
    · obtain ⟨c, hpj, hd1, hd2, hpre, hix⟩ := digit_here s p u j H.out (by have := HND.out; omega)
      have hx := fun w => hix ((p : Int) + (j : Int)) w (by omega)
      rw [← HND.out] at hpre
      have hle := pre_le u nd (j + 1)
      have HP : Hid (pre u nd (j + 1) = x * 10 + (c - 48)) := by rw [HX.out]; exact hpre
      have hb : x * 10 + (c - 48) ≤ 9223372036854775807 := by have := HP.out; omega
      clear hpre hle hix
      go_wp2
      go_round
      case rel => exact ⟨j + 1, x * 10 + (c - 48), by omega, HP.out.symm, by go_num, by go_num⟩
      case measure => simp [intOf]; omega
    · have ej : j = nd := by omega
      subst ej
      have ex : x = u := by rw [HX.out, HND.out]; exact pre_all u _
      subst ex
      have hne : (((p : Int) + (j : Int)) == (p : Int)) = false := beq_false_of_ne (by omega)
      have hE := HE.out
      rw [← HND.out] at hE
      rcases hE with hE | ⟨hq, hE⟩
      · have hge : ¬ ((p : Int) + (j : Int) < (s.size : Int)) := by omega
        clear hE
        go_wp2
        go_ret3
        exact ⟨rfl, rfl⟩
      · have hx := fun w => index_at s (p + j) ((p : Int) + (j : Int)) (by omega) hq w
        generalize (s[p + j]).toNat = c at hx hE
        have hlt2 : (p : Int) + (j : Int) < (s.size : Int) := by omega
        rcases hE with hE | hE
        all_goals
          go_wp2
          go_ret3
          exact ⟨rfl, rfl⟩

theorem ret3 {a b q : Int} (h : a = b) : Ending.returned (.tuple #[.int .i64 a, .int .i64 q, .bool true]) = .returned (.tuple #[.int .i64 b, .int .i64 q, .bool true]) := by rw [h]

set_option maxHeartbeats 400000 in
theorem read_neg (s : ByteArray) (p u : Nat) (w : World) (hu0 : 1 ≤ u) (hu : u ≤ 9223372036854775808) (hm : ∀ (i : Int) (w : World), i = ((p : Nat) : Int) → (Instr.index 9 (.string s) (.int .i64 i)).run Tryd.prog w = .ok (.int .u8 45) w)
    (h : HasAt s (p + 1) (Lib.decDigits u)) (hs : s.size ≤ 1073741824) (he : Ends s (p + 1 + Lib.nDigits u)) :
    Calls Tryd.prog 10 #[.string s, .int .i64 p] w fun e w' => e = .returned (.tuple #[.int .i64 (-(u : Int)), .int .i64 ((p + 1 + Lib.nDigits u : Nat) : Int), .bool true]) ∧ w = w' := by
  have hnd := Lib.nDigits_pos u
  obtain ⟨c0, hps, -, -, -, -⟩ := digit_here s (p + 1) u 0 h (by omega)
  have hx0 := fun w => hm (p : Int) w (by omega)
  have H : Hid (HasAt s (p + 1) (Lib.decDigits u)) := h
  have HE : Hid (Ends s (p + 1 + Lib.nDigits u)) := he
  obtain ⟨nd, end_⟩ : ∃ nd, nd = Lib.nDigits u := ⟨_, rfl⟩
  have HND : Hid (nd = Lib.nDigits u) := end_
  have hp1 : p < s.size := by omega
  rw [← end_] at hnd ⊢
  clear h he hm end_ hps
  go_enter Tryd.func10, Tryd.ntmps10
  go_wp2
  go_loop [1, 9] (fun pos uu => ∃ j x : Nat, j ≤ nd ∧ Hid (x = pre u nd j) ∧ pos = .int .i64 ((p + 1 + j : Nat) : Int) ∧ uu = .int .u64 x) (fun pos _ => p + 1 + nd - (intOf pos).toNat)
  case atStart => exact ⟨0, 0, Nat.zero_le _, by rw [HND.out]; exact (pre_zero u).symm, rfl, rfl⟩
  case round =>
    obtain ⟨j, x, hj, HX, rfl, rfl⟩ := hrel
    by_cases hlt : j < nd
    · obtain ⟨c, hpj, hd1, hd2, hpre, hix⟩ := digit_here s (p + 1) u j H.out (by have := HND.out; omega)
      have hx := fun w => hix ((p : Int) + 1 + (j : Int)) w (by omega)
      rw [← HND.out] at hpre
      have hle := pre_le u nd (j + 1)
      have HP : Hid (pre u nd (j + 1) = x * 10 + (c - 48)) := by rw [HX.out]; exact hpre
      have hb : x * 10 + (c - 48) ≤ 9223372036854775808 := by have := HP.out; omega
      clear hpre hle hix
      go_wp2
      go_round
      case rel => exact ⟨j + 1, x * 10 + (c - 48), by omega, HP.out.symm, by go_num, by go_num⟩
      case measure => simp [intOf]; omega
    · have ej : j = nd := by omega
      subst ej
      have ex : x = u := by rw [HX.out, HND.out]; exact pre_all u _
      subst ex
      have hne : (((p : Int) + 1 + (j : Int)) == (p : Int) + 1) = false := beq_false_of_ne (by omega)
      have hu1 : ((x : Int) == 0) = false := beq_false_of_ne (by omega)
      have hE := HE.out
      rw [← HND.out] at hE
      rcases hE with hE | ⟨hq, hE⟩
      · have hge : ¬ ((p : Int) + 1 + (j : Int) < (s.size : Int)) := by omega
        clear hE
        go_wp2
        go_ret3
        exact ⟨ret3 (by omega), rfl⟩
      · have hx := fun w => index_at s (p + 1 + j) ((p : Int) + 1 + (j : Int)) (by omega) hq w
        generalize (s[p + 1 + j]).toNat = c at hx hE
        have hlt2 : (p : Int) + 1 + (j : Int) < (s.size : Int) := by omega
        rcases hE with hE | hE
        all_goals
          go_wp2
          go_ret3
          exact ⟨ret3 (by omega), rfl⟩

/-- zzb1ReadInt where a decimal numeral stands. -/
theorem read_any (s : ByteArray) (p : Nat) (v : Int) (w : World) (h0 : -9223372036854775808 ≤ v) (h1 : v ≤ 9223372036854775807) (h : HasAt s p (Lib.itoa v)) (hs : s.size ≤ 1073741824) (he : Ends s (p + (Lib.itoa v).length)) (q : Nat) (hq : q = p + (Lib.itoa v).length) :
    Calls Tryd.prog 10 #[.string s, .int .i64 p] w fun e w' => e = .returned (.tuple #[.int .i64 v, .int .i64 (q : Int), .bool true]) ∧ w = w' := by
  subst hq
  by_cases hn : v < 0
  · obtain ⟨u, rfl⟩ : ∃ u : Nat, v = -(u : Int) := ⟨v.natAbs, by omega⟩
    have e : Lib.itoa (-(u : Int)) = 45 :: Lib.decDigits u := Lib.itoa_neg u (by omega)
    rw [e] at h he ⊢
    have el : (45 :: Lib.decDigits u).length = 1 + Lib.nDigits u := by rw [List.length_cons, Lib.decDigits_length]; omega
    rw [el] at he ⊢
    have ea : p + (1 + Lib.nDigits u) = p + 1 + Lib.nDigits u := by omega
    rw [ea] at he ⊢
    obtain ⟨k0, k1⟩ := h 0 (by simp)
    refine read_neg s p u w (by omega) (by omega) (fun i w hi => ?_) ?_ hs he
    · rw [index_at s p i hi (by omega) w]
      have : s[p]'(by omega) = 45 := by simpa using k1
      rw [this]; rfl
    · intro k hk
      obtain ⟨h', e'⟩ := h (k + 1) (by simp; omega)
      have e3 : p + (k + 1) = p + 1 + k := by omega
      refine ⟨by omega, ?_⟩
      simp only [List.getElem_cons_succ] at e'
      rw [← e']
      congr 1
      omega
  · obtain ⟨u, rfl⟩ : ∃ u : Nat, v = (u : Int) := ⟨v.toNat, by omega⟩
    have e : Lib.itoa (u : Int) = Lib.decDigits u := Lib.itoa_nonneg u
    rw [e] at h he ⊢
    rw [Lib.decDigits_length] at he ⊢
    exact read_pos s p u w (by omega) h hs he
end Go.Proofs.Qxb6615494aDoor
