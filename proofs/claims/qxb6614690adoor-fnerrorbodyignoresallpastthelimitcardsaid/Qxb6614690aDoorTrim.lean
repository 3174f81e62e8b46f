import Derived.Test.Qxb6614690aDoorAll
import Derived.Laws.BytesArg
import Derived.Lib.SlBytesConst
namespace Go.Proofs.Qxb6614690aDoor
open Go.RowKit
set_option linter.unusedVariables false

/-- Each number is a byte. -/
def Byte (xs : List Int) : Prop := ∀ z ∈ xs, 0 ≤ z ∧ z < 256

theorem nums_inj : ∀ (xs ys : List Int), Byte xs → Byte ys → (xs.map fun n => UInt8.ofNat n.toNat) = (ys.map fun n => UInt8.ofNat n.toNat) → xs = ys
  | [], [], _, _, _ => rfl
  | [], _ :: _, _, _, h => by simp at h
  | _ :: _, [], _, _, h => by simp at h
  | x :: xs, y :: ys, h1, h2, h => by
    simp only [List.map_cons, List.cons.injEq] at h
    have hx := h1 x (by simp)
    have hy := h2 y (by simp)
    have e : x = y := by
      have := congrArg UInt8.toNat h.1
      simp at this
      omega
    rw [e, nums_inj xs ys (fun z hz => h1 z (by simp [hz])) (fun z hz => h2 z (by simp [hz])) h.2]

theorem str_same (xs ys : List Int) (hx : Byte xs) (hy : Byte ys) : ((strOfNums xs).toList == (strOfNums ys).toList) = same xs ys := by
  unfold same
  rw [Bool.eq_iff_iff]
  simp only [beq_iff_eq, decide_eq_true_eq]
  constructor
  · intro h
    rw [Go.ByteArray.toList_eq, Go.ByteArray.toList_eq, strOfNums_data, strOfNums_data] at h
    exact nums_inj xs ys hx hy h
  · rintro rfl; rfl

theorem eq_any (b1 o1 c1 b2 o2 c2 : Nat) (xs ys : List Int) (w : World) (hx : Bs w b1 o1 xs) (hy : Bs w b2 o2 ys) (bx : Byte xs) (byy : Byte ys) :
    Calls Tryd.prog 16 #[.slice (some ⟨b1, o1, none⟩) xs.length c1, .slice (some ⟨b2, o2, none⟩) ys.length c2] w fun e w' => e = .returned (.bool (same xs ys)) ∧ w' = w := by
  have k1 := run_convert_bytes_arg (P := Tryd.prog) w 22 5 Tryd.underlying22 Tryd.underlying5 b1 o1 xs.length c1 xs rfl hx 9 Tryd.underlying9
  have k2 := run_convert_bytes_arg (P := Tryd.prog) w 22 5 Tryd.underlying22 Tryd.underlying5 b2 o2 ys.length c2 ys rfl hy 9 Tryd.underlying9
  go_enter Tryd.func16, Tryd.ntmps16
  go_wp2
  go_ret
  exact ⟨ret_bool (str_same xs ys bx byy), rfl⟩

def mark : List Int := [239, 187, 191]
def strip (xs : List Int) : List Int := if opens xs then xs.drop 3 else xs

theorem byte_mark : Byte mark := by intro z hz; simp [mark] at hz; omega

theorem take3 (xs : List Int) (h : 3 ≤ xs.length) : xs.take 3 = [xs.getD 0 0, xs.getD 1 0, xs.getD 2 0] := by
  match xs, h with
  | a :: b :: c :: t, _ => simp

theorem same_mark (xs : List Int) (h : 3 ≤ xs.length) : same (xs.take 3) mark = opens xs := by
  unfold same opens mark
  rw [take3 xs h]
  rw [Bool.eq_iff_iff]
  simp [h]

theorem Byte.take {xs : List Int} (h : Byte xs) (n : Nat) : Byte (xs.take n) := fun z hz => h z (List.mem_of_mem_take hz)
theorem Bs.take {w : World} {b o : Nat} {xs : List Int} (h : Bs w b o xs) (n : Nat) : Bs w b o (xs.take n) := by
  intro i hi
  have h1 : i < xs.length := by simp at hi; omega
  have h2 : i < n := by simp at hi; omega
  rw [h i h1]
  simp [List.getD_eq_getElem?_getD, h2]
theorem Bs.drop {w : World} {b o : Nat} {xs : List Int} (h : Bs w b o xs) (n : Nat) : Bs w b (o + n) (xs.drop n) := by
  intro i hi
  have h1 : n + i < xs.length := by simp at hi; omega
  rw [Nat.add_assoc, h (n + i) h1]
  simp [List.getD_eq_getElem?_getD, List.getElem?_drop]

set_option maxHeartbeats 400000 in
theorem has_any (b1 o1 c1 b2 o2 c2 : Nat) (xs : List Int) (w : World) (hx : Bs w b1 o1 xs) (hy : Bs w b2 o2 mark) (bx : Byte xs) (hxc : xs.length ≤ c1) (hcm : c1 ≤ maxLen) :
    Calls Tryd.prog 15 #[.slice (some ⟨b1, o1, none⟩) xs.length c1, .slice (some ⟨b2, o2, none⟩) 3 c2] w fun e w' => e = .returned (.bool (opens xs)) ∧ w' = w := by
  unfold maxLen at hcm
  by_cases hl : 3 ≤ xs.length
  · have hm := same_mark xs hl
    have C := eq_any b1 o1 c1 b2 o2 c2 (xs.take 3) mark w (hx.take 3) hy (bx.take 3) byte_mark
    have hlen : (xs.take 3).length = 3 := by simp; omega
    rw [hlen, hm, show mark.length = 3 from rfl] at C
    have HC : Hid (Calls Tryd.prog 16 #[.slice (some ⟨b1, o1, none⟩) 3 c1, .slice (some ⟨b2, o2, none⟩) 3 c2] w fun e w' => e = .returned (.bool (opens xs)) ∧ w' = w) := C
    clear C hm hlen
    have h3 : (3 : Int) ≤ (xs.length : Int) := by omega
    go_enter Tryd.func15, Tryd.ntmps15
    go_wp2_with (go_at_call 16; refine HC.out.mono ?_; rintro e w' ⟨rfl, rfl⟩)
    go_ret
    exact ⟨rfl, rfl⟩
  · have E : opens xs = false := by unfold opens; exact decide_eq_false (fun h => hl h.1)
    rw [E]
    go_enter Tryd.func15, Tryd.ntmps15
    go_wp2
    go_ret
    exact ⟨rfl, rfl⟩

set_option maxHeartbeats 400000 in
theorem trim_any (b1 o1 c1 b2 o2 c2 : Nat) (xs : List Int) (w : World) (hx : Bs w b1 o1 xs) (hy : Bs w b2 o2 mark) (bx : Byte xs) (hxc : xs.length ≤ c1) (hcm : c1 ≤ maxLen) :
    Calls Tryd.prog 14 #[.slice (some ⟨b1, o1, none⟩) xs.length c1, .slice (some ⟨b2, o2, none⟩) 3 c2] w fun e w' => (∃ o c, e = .returned (.slice (some ⟨b1, o, none⟩) (strip xs).length c) ∧ (strip xs).length ≤ c ∧ c ≤ maxLen ∧ Bs w b1 o (strip xs)) ∧ w' = w := by
  have C := has_any b1 o1 c1 b2 o2 c2 xs w hx hy bx hxc hcm
  have hcm2 := hcm
  unfold maxLen at hcm
  by_cases hop : opens xs = true
  · have hl : 3 ≤ xs.length := by unfold opens at hop; simp at hop; exact hop.1
    have hs : strip xs = xs.drop 3 := by unfold strip; rw [if_pos hop]
    rw [hop] at C
    rw [hs]
    have h3 : (3 : Int) ≤ (xs.length : Int) := by omega
    have HC : Hid (Calls Tryd.prog 15 #[.slice (some ⟨b1, o1, none⟩) xs.length c1, .slice (some ⟨b2, o2, none⟩) 3 c2] w fun e w' => e = .returned (.bool true) ∧ w' = w) := C
    clear C hop hs
    by_cases hc3 : c1 = 3
    · subst hc3
      have hx3 : xs.length = 3 := by omega
      have HX3 : Hid (xs.length = 3) := hx3
      clear hx3
      go_enter Tryd.func14, Tryd.ntmps14
      go_wp2_with (go_at_call 15; refine HC.out.mono ?_; rintro e w' ⟨rfl, rfl⟩)
      go_ret
      have e0 : (xs.drop 3).length = 0 := by have := HX3.out; simp; omega
      have e1 : xs.drop 3 = [] := List.eq_nil_of_length_eq_zero e0
      rw [e1]
      exact ⟨⟨o1, 0, rfl, Nat.le_refl _, Nat.zero_le _, fun i hi => by simp at hi⟩, rfl⟩
    · go_enter Tryd.func14, Tryd.ntmps14
      go_wp2_with (go_at_call 15; refine HC.out.mono ?_; rintro e w' ⟨rfl, rfl⟩)
      go_ret
      have e0 : (xs.drop 3).length = xs.length - 3 := by simp
      rw [e0]
      exact ⟨⟨o1 + 3, c1 - 3, rfl, by omega, by unfold maxLen; omega, hx.drop 3⟩, rfl⟩
  · have hop' : opens xs = false := by simpa using hop
    have hs : strip xs = xs := by unfold strip; rw [if_neg hop]
    rw [hop'] at C
    rw [hs]
    have HC : Hid (Calls Tryd.prog 15 #[.slice (some ⟨b1, o1, none⟩) xs.length c1, .slice (some ⟨b2, o2, none⟩) 3 c2] w fun e w' => e = .returned (.bool false) ∧ w' = w) := C
    clear C hop hop' hs
    go_enter Tryd.func14, Tryd.ntmps14
    go_wp2_with (go_at_call 15; refine HC.out.mono ?_; rintro e w' ⟨rfl, rfl⟩)
    go_ret
    exact ⟨⟨o1, c1, rfl, hxc, hcm2, hx⟩, rfl⟩
end Go.Proofs.Qxb6614690aDoor
