import Derived.Test.Qxb6615494aDoorRead
namespace Go.Proofs.Qxb6615494aDoor
open Go.RowKit
set_option linter.unusedVariables false

theorem HasAt.left {s : ByteArray} {p : Nat} {a b : List UInt8} (h : HasAt s p (a ++ b)) : HasAt s p a := fun k hk => by
  obtain ⟨h', e⟩ := h k (by simp; omega)
  exact ⟨h', by rw [e, List.getElem_append_left hk]⟩
theorem HasAt.right {s : ByteArray} {p : Nat} {a b : List UInt8} (h : HasAt s p (a ++ b)) : HasAt s (p + a.length) b := fun k hk => by
  obtain ⟨h', e⟩ := h (a.length + k) (by simp; omega)
  have e1 : p + a.length + k = p + (a.length + k) := by omega
  refine ⟨by omega, ?_⟩
  have e2 : (a ++ b)[a.length + k]'(by simp; omega) = b[k] := by rw [List.getElem_append_right (by omega)]; simp
  rw [← e2, ← e]
  congr 1

/-- The next byte is no digit. -/
def Shut (l : List UInt8) : Prop := match l with | [] => True | c :: _ => c.toNat < 48 ∨ 57 < c.toNat

theorem ends_of {s : ByteArray} {p : Nat} {a b : List UInt8} (h : HasAt s p (a ++ b)) (hsz : p + (a ++ b).length = s.size) (hb : Shut b) : Ends s (p + a.length) := by
  cases b with
  | nil => left; simpa using hsz
  | cons c t =>
    right
    obtain ⟨h', e⟩ := h.right 0 (by simp)
    refine ⟨by omega, ?_⟩
    have : s[p + a.length]'(by omega) = c := by simpa using e
    rw [this]
    exact hb

/-- 'rest' is what is left of s from place p on. -/
def Left (s : ByteArray) (p : Nat) (rest : List UInt8) : Prop := HasAt s p rest ∧ p + rest.length = s.size

theorem Left.step {s : ByteArray} {p : Nat} {a b : List UInt8} (h : Left s p (a ++ b)) : Left s (p + a.length) b := ⟨h.1.right, by have := h.2; simp at this ⊢; omega⟩
theorem Left.all (l : List UInt8) : Left ⟨l.toArray⟩ 0 l := by
  refine ⟨fun k hk => ⟨?_, ?_⟩, ?_⟩
  · show 0 + k < l.toArray.size
    simp; omega
  · show (l.toArray)[0 + k]'_ = l[k]
    simp
  · show 0 + l.length = l.toArray.size
    simp

theorem expect_left (s lit : ByteArray) (p q : Nat) (l rest : List UInt8) (w : World) (hl : lit.data.toList = l) (h : Left s p (l ++ rest)) (hs : s.size ≤ 1073741824) (hq : q = p + l.length) :
    Calls Tryd.prog 9 #[.string s, .int .i64 p, .string lit] w fun e w' => e = .returned (.tuple #[.int .i64 (q : Int), .bool true]) ∧ ∃ n, w' = w.drewN n := by
  have e1 : lit.size = l.length := by rw [← hl]; exact Array.length_toList.symm
  have C := expect_ok s lit p w (by rw [hl]; exact h.1.left) (by unfold maxLen; omega) (by have := h.2; omega)
  rw [e1, ← hq] at C
  exact C

theorem read_left (s : ByteArray) (p q : Nat) (v : Int) (rest : List UInt8) (w : World) (h0 : -9223372036854775808 ≤ v) (h1 : v ≤ 9223372036854775807) (h : Left s p (Lib.itoa v ++ rest)) (hs : s.size ≤ 1073741824) (hb : Shut rest) (hq : q = p + (Lib.itoa v).length) :
    Calls Tryd.prog 10 #[.string s, .int .i64 p] w fun e w' => e = .returned (.tuple #[.int .i64 v, .int .i64 (q : Int), .bool true]) ∧ w = w' :=
  read_any s p v w h0 h1 h.1.left hs (ends_of h.1 h.2 hb) q hq

set_option maxHeartbeats 400000 in
/-- zzb1Field where the word and a numeral stand. -/
theorem field_left (s lit : ByteArray) (p q : Nat) (l : List UInt8) (v : Int) (rest : List UInt8) (w : World) (hl : lit.data.toList = l) (h0 : -9223372036854775808 ≤ v) (h1 : v ≤ 9223372036854775807) (h : Left s p (l ++ (Lib.itoa v ++ rest))) (hs : s.size ≤ 1073741824) (hb : Shut rest) (hq : q = p + l.length + (Lib.itoa v).length) :
    Calls Tryd.prog 8 #[.string s, .int .i64 p, .string lit] w fun e w' => e = .returned (.tuple #[.int .i64 v, .int .i64 (q : Int), .bool true]) ∧ ∃ n, w' = w.drewN n := by
  have C1 : Hid (∀ w, Calls Tryd.prog 9 #[.string s, .int .i64 p, .string lit] w fun e w' => e = .returned (.tuple #[.int .i64 ((p + l.length : Nat) : Int), .bool true]) ∧ ∃ n, w' = w.drewN n) := fun w => expect_left s lit p (p + l.length) l _ w hl h hs rfl
  have C2 : Hid (∀ w, Calls Tryd.prog 10 #[.string s, .int .i64 ((p + l.length : Nat) : Int)] w fun e w' => e = .returned (.tuple #[.int .i64 v, .int .i64 (q : Int), .bool true]) ∧ w = w') := fun w => read_left s (p + l.length) q v rest w h0 h1 h.step hs hb hq
  obtain ⟨m, em⟩ : ∃ m, m = p + l.length := ⟨_, rfl⟩
  rw [← em] at C1 C2
  clear hl h hq em hb
  go_enter Tryd.func8, Tryd.ntmps8
  go_wp2_with (first | (go_at_call 9; refine (C1.out _).mono ?_; rintro e w' ⟨rfl, n, rfl⟩) | (go_at_call 10; refine (C2.out _).mono ?_; rintro e w' ⟨rfl, rfl⟩))
  go_ret3
  exact ⟨rfl, _, rfl⟩
end Go.Proofs.Qxb6615494aDoor
