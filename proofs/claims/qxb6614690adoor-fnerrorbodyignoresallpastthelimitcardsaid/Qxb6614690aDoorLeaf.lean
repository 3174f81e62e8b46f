import Derived.Test.Qxb6614690aDoorRows
import Derived.WalkKit
import Derived.WalkSpells
import Derived.WalkLawsBesides
import Derived.Deep.QuietTactic
import Derived.BigQuiet
namespace Go.Proofs.Qxb6614690aDoor
open Go.RowKit
set_option linter.unusedVariables false

/-- The cells from (b, off) on hold the bytes zs. -/
def Bs (w : World) (b off : Nat) (zs : List Int) : Prop :=
  ∀ i, i < zs.length → w.cell? ⟨b, off + i, none⟩ = some (.int .u8 (zs.getD i 0))

def same (xs ys : List Int) : Bool := decide (xs = ys)

theorem same_false_len (xs ys : List Int) (h : xs.length ≠ ys.length) : same xs ys = false := by
  unfold same; simp; intro e; exact h (by rw [e])

theorem take_eq_step (xs ys : List Int) (k : Nat) (hx : k < xs.length) (hy : k < ys.length) (h : xs.take k = ys.take k) (e : xs.getD k 0 = ys.getD k 0) :
    xs.take (k + 1) = ys.take (k + 1) := by
  rw [List.take_succ_eq_append_getElem hx, List.take_succ_eq_append_getElem hy, h]
  simp [List.getD_eq_getElem?_getD, List.getElem?_eq_getElem hx, List.getElem?_eq_getElem hy] at e
  rw [e]

theorem same_false_at (xs ys : List Int) (k : Nat) (e : xs.getD k 0 ≠ ys.getD k 0) : same xs ys = false := by
  unfold same; simp; intro h; exact e (by rw [h])

theorem ret_bool {a b : Bool} (h : a = b) : Ending.returned (.bool a) = .returned (.bool b) := by rw [h]

set_option maxHeartbeats 400000 in
theorem zzSame_any (b1 o1 c1 b2 o2 c2 : Nat) (xs ys : List Int) (w : World) (hx : Bs w b1 o1 xs) (hy : Bs w b2 o2 ys)
    (hlx : xs.length ≤ maxLen) :
    Calls Tryd.prog 7 #[.slice (some ⟨b1, o1, none⟩) xs.length c1, .slice (some ⟨b2, o2, none⟩) ys.length c2] w
      fun e w' => e = .returned (.bool (same xs ys)) ∧ ∃ n, w' = w.drewN n := by
  unfold maxLen at hlx
  by_cases hl : xs.length = ys.length
  · have hne : (((xs.length : Nat) : Int) != ((ys.length : Nat) : Int)) = false := by simp [hl]
    have HL : Hid (xs.length = ys.length) := hl
    clear hl
    go_enter Tryd.func7, Tryd.ntmps7
    go_wp2
    go_loopw [5] (fun i wr => ∃ k : Nat, k ≤ xs.length ∧ i = .int .i64 k ∧ xs.take k = ys.take k ∧ ∃ n, wr = w.drewN n) (fun i _ => xs.length - (intOf i).toNat)
    case atStart => exact ⟨0, Nat.zero_le _, rfl, rfl, 0, rfl⟩
    case round =>
      obtain ⟨k, hk, rfl, hpre, n, rfl⟩ := hrel
      have HP : Hid (xs.take k = ys.take k) := hpre
      clear hpre
      by_cases hlt : k < xs.length
      · have hlty : k < ys.length := by have := HL.out; omega
        have hcx := hx k hlt
        have hcy := hy k hlty
        obtain ⟨x, ex⟩ : ∃ x, x = xs.getD k 0 := ⟨_, rfl⟩
        obtain ⟨y, ey⟩ : ∃ y, y = ys.getD k 0 := ⟨_, rfl⟩
        rw [← ex] at hcx
        rw [← ey] at hcy
        have HX : Hid (x = xs.getD k 0) := ex
        have HY : Hid (y = ys.getD k 0) := ey
        clear ex ey
        by_cases heq : x = y
        · have HE : Hid (xs.getD k 0 = ys.getD k 0) := by rw [← HX.out, ← HY.out, heq]; rfl
          rw [heq] at hcx
          clear heq
          go_wp2
          go_quiet (fail)
          go_wp2
          go_roundw
          case rel => exact ⟨k + 1, by omega, by go_num, take_eq_step _ _ _ hlt hlty HP.out HE.out, _, rfl⟩
          case measure => simp [intOf]; omega
        · have HE : Hid (¬ xs.getD k 0 = ys.getD k 0) := by rw [← HX.out, ← HY.out]; exact heq
          have hq : (x != y) = true := by simp only [bne_iff_ne, ne_eq]; exact heq
          clear heq
          go_wp2
          go_quiet (fail)
          go_wp2
          go_ret
          exact ⟨ret_bool (same_false_at _ _ k HE.out).symm, _, World.drewN_drewN ..⟩
      · go_wp2
        go_ret
        refine ⟨ret_bool ?_, n, rfl⟩
        have h := HP.out
        rw [List.take_of_length_le (by omega), List.take_of_length_le (by have := HL.out; omega)] at h
        simp [same, h]
  · have hne : (((xs.length : Nat) : Int) != ((ys.length : Nat) : Int)) = true := by simp; omega
    go_enter Tryd.func7, Tryd.ntmps7
    go_wp2
    go_ret
    exact ⟨ret_bool (same_false_len _ _ hl).symm, 0, rfl⟩

def opens (xs : List Int) : Bool := decide (3 ≤ xs.length ∧ xs.getD 0 0 = 239 ∧ xs.getD 1 0 = 187 ∧ xs.getD 2 0 = 191)

theorem opens_eq (xs : List Int) (hl : 3 ≤ xs.length) : opens xs = (xs.getD 0 0 == 239 && xs.getD 1 0 == 187 && xs.getD 2 0 == 191) := by
  unfold opens
  rw [Bool.eq_iff_iff]
  simp [hl, and_assoc]

theorem zzOpens_core (b o c n : Nat) (x0 x1 x2 : Int) (w : World) (hn : 3 ≤ n) (hm : n ≤ maxLen) (h0 : w.cell? ⟨b, o, none⟩ = some (.int .u8 x0)) (h1 : w.cell? ⟨b, o + 1, none⟩ = some (.int .u8 x1)) (h2 : w.cell? ⟨b, o + 2, none⟩ = some (.int .u8 x2)) :
    Calls Tryd.prog 8 #[.slice (some ⟨b, o, none⟩) n c] w fun e w' => e = .returned (.bool (x0 == 239 && x1 == 187 && x2 == 191)) ∧ w' = w := by
  unfold maxLen at hm
  have p0 : 0 < n := by omega
  have p1 : 1 < n := by omega
  have p2 : 2 < n := by omega
  by_cases e0 : x0 = 239
  · subst e0
    by_cases e1 : x1 = 187
    · subst e1
      go_enter Tryd.func8, Tryd.ntmps8
      go_wp2
      go_ret
      exact ⟨rfl, rfl⟩
    · have q : (x1 == 187) = false := beq_false_of_ne e1
      clear e1
      go_enter Tryd.func8, Tryd.ntmps8
      go_wp2
      go_ret
      exact ⟨by rw [q]; rfl, rfl⟩
  · have q : (x0 == 239) = false := beq_false_of_ne e0
    clear e0
    go_enter Tryd.func8, Tryd.ntmps8
    go_wp2
    go_ret
    exact ⟨by rw [q]; rfl, rfl⟩

theorem zzOpens_short (a : Option Addr) (c n : Nat) (w : World) (hn : n < 3) :
    Calls Tryd.prog 8 #[.slice a n c] w fun e w' => e = .returned (.bool false) ∧ w' = w := by
  go_enter Tryd.func8, Tryd.ntmps8
  go_wp2
  go_ret
  exact ⟨rfl, rfl⟩

theorem zzOpens_any (b o c : Nat) (xs : List Int) (w : World) (hx : Bs w b o xs) (hlx : xs.length ≤ maxLen) :
    Calls Tryd.prog 8 #[.slice (some ⟨b, o, none⟩) xs.length c] w fun e w' => e = .returned (.bool (opens xs)) ∧ w' = w := by
  by_cases hl : 3 ≤ xs.length
  · rw [opens_eq xs hl]
    exact zzOpens_core b o c xs.length _ _ _ w hl hlx (hx 0 (by omega)) (hx 1 (by omega)) (hx 2 (by omega))
  · have E : opens xs = false := by unfold opens; exact decide_eq_false (fun h => hl h.1)
    rw [E]
    exact zzOpens_short _ c _ w (by omega)
end Go.Proofs.Qxb6614690aDoor
