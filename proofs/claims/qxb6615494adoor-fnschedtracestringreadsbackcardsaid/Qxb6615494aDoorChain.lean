import Derived.Test.Qxb6615494aDoorClone
import Derived.Test.Qxb6615494aDoorField
namespace Go.Proofs.Qxb6615494aDoor
open Go.RowKit
set_option linter.unusedVariables false

/-- What the line holds from queue k on, d queues being left. -/
def rem (zs : List Int) : Nat → Nat → List UInt8
  | 0, _ => [93]
  | d + 1, k => (if 0 < k then [32] else []) ++ (Lib.itoa (zs.getD k 0) ++ rem zs d (k + 1))

theorem quRow_rem (zs : List Int) (d : Nat) : ∀ k, quRow zs (k + d) ++ [93] = quRow zs k ++ rem zs d k := by
  induction d with
  | zero => intro k; rfl
  | succ d ih =>
    intro k
    have e : k + (d + 1) = (k + 1) + d := by omega
    rw [e, ih (k + 1)]
    simp only [quRow, rem, List.append_assoc]

theorem shut_cons (c : UInt8) (t : List UInt8) (h : c.toNat < 48 ∨ 57 < c.toNat) : Shut (c :: t) := h

theorem rem_shut (zs : List Int) (d k : Nat) : Shut (rem zs d (k + 1)) := by
  cases d with
  | zero => exact shut_cons 93 [] (.inr (by decide))
  | succ d =>
    have e : rem zs (d + 1) (k + 1) = 32 :: (Lib.itoa (zs.getD (k + 1) 0) ++ rem zs d (k + 1 + 1)) := by simp [rem]
    rw [e]
    exact shut_cons 32 _ (.inl (by decide))

def N6 : List UInt8 := [32, 110, 101, 101, 100, 115, 112, 105, 110, 110, 105, 110, 103, 61]
def I6 : List UInt8 := [32, 105, 100, 108, 101, 116, 104, 114, 101, 97, 100, 115, 61]
theorem S6_eq : S6 = N6 ++ (Lib.itoa 0 ++ I6) := by
  have e : Lib.itoa 0 = [48] := (Lib.itoa_nonneg 0).trans (Lib.decDigits_one (by decide))
  rw [e]
  decide

def FieldAt (s lit : ByteArray) (p : Nat) (v : Int) (q : Nat) : Prop := ∀ w, Calls Tryd.prog 8 #[.string s, .int .i64 p, .string lit] w fun e w' => e = .returned (.tuple #[.int .i64 v, .int .i64 (q : Int), .bool true]) ∧ ∃ n, w' = w.drewN n
def ExpAt (s lit : ByteArray) (p q : Nat) : Prop := ∀ w, Calls Tryd.prog 9 #[.string s, .int .i64 p, .string lit] w fun e w' => e = .returned (.tuple #[.int .i64 (q : Int), .bool true]) ∧ ∃ n, w' = w.drewN n
def ReadAt (s : ByteArray) (p : Nat) (v : Int) (q : Nat) : Prop := ∀ w, Calls Tryd.prog 10 #[.string s, .int .i64 p] w fun e w' => e = .returned (.tuple #[.int .i64 v, .int .i64 (q : Int), .bool true]) ∧ w = w'

theorem field_step (s lit : ByteArray) (p : Nat) (l : List UInt8) (v : Int) (rest : List UInt8) (hv : inI v) (hs : s.size ≤ 1073741824) (h : Left s p (l ++ (Lib.itoa v ++ rest))) (hl : lit.data.toList = l) (hb : Shut rest) :
    ∃ q, Hid (FieldAt s lit p v q) ∧ Left s q rest :=
  ⟨_, fun w => field_left s lit p _ l v rest w hl hv.1 hv.2 h hs hb rfl, h.step.step⟩
theorem exp_step (s lit : ByteArray) (p : Nat) (l rest : List UInt8) (hs : s.size ≤ 1073741824) (h : Left s p (l ++ rest)) (hl : lit.data.toList = l) : ∃ q, Hid (ExpAt s lit p q) ∧ Left s q rest :=
  ⟨_, fun w => expect_left s lit p _ l rest w hl h hs rfl, h.step⟩
theorem read_step (s : ByteArray) (p : Nat) (v : Int) (rest : List UInt8) (hv : inI v) (hs : s.size ≤ 1073741824) (h : Left s p (Lib.itoa v ++ rest)) (hb : Shut rest) : ∃ q, Hid (ReadAt s p v q) ∧ Left s q rest :=
  ⟨_, fun w => read_left s p _ v rest w hv.1 hv.2 h hs hb rfl, h.step⟩

theorem Left.le {s : ByteArray} {p : Nat} {r : List UInt8} (h : Left s p r) : p ≤ s.size := by have := h.2; omega

theorem line_eq (ms i1 i2 i3 i4 i5 : Int) (zs : List Int) (n : Nat) : line ms i1 i2 i3 i4 i5 zs n =
    S1 ++ (Lib.itoa ms ++ (S2 ++ (Lib.itoa n ++ (S3 ++ (Lib.itoa i1 ++ (S4 ++ (Lib.itoa i2 ++ (S5 ++ (Lib.itoa i3 ++ (N6 ++ (Lib.itoa 0 ++ (I6 ++ (Lib.itoa i4 ++ (S7 ++ (Lib.itoa i5 ++ ([32, 91] ++ rem zs n 0)))))))))))))))) := by
  have e := quRow_rem zs n 0
  rw [Nat.zero_add] at e
  unfold line head
  rw [S6_eq]
  simp only [List.append_assoc]
  rw [e]
  rfl

theorem quRow_len (zs : List Int) (n : Nat) (h : ∀ k, k < n → inI (zs.getD k 0)) : ∀ k, k ≤ n → (quRow zs k).length ≤ 22 * k := by
  intro k
  induction k with
  | zero => intro _; simp [quRow]
  | succ k ih =>
    intro hk
    have h1 := ih (by omega)
    have h2 := Lib.itoa_length_le (zs.getD k 0) (h k (by omega)).1 (h k (by omega)).2
    have h3 : (if 0 < k then [32] else ([] : List UInt8)).length ≤ 1 := by split <;> simp
    simp only [quRow, List.length_append]
    omega

theorem line_len (ms i1 i2 i3 i4 i5 : Int) (zs : List Int) (n : Nat) (hn : n ≤ 65536) (h0 : inI ms) (h1 : inI i1) (h2 : inI i2) (h3 : inI i3) (h4 : inI i4) (h5 : inI i5) (h : ∀ k, k < n → inI (zs.getD k 0)) : (line ms i1 i2 i3 i4 i5 zs n).length ≤ 1073741824 := by
  have q := quRow_len zs n h n (Nat.le_refl _)
  have a0 := Lib.itoa_length_le ms h0.1 h0.2
  have a1 := Lib.itoa_length_le i1 h1.1 h1.2
  have a2 := Lib.itoa_length_le i2 h2.1 h2.2
  have a3 := Lib.itoa_length_le i3 h3.1 h3.2
  have a4 := Lib.itoa_length_le i4 h4.1 h4.2
  have a5 := Lib.itoa_length_le i5 h5.1 h5.2
  have a6 := Lib.itoa_length_le (n : Int) (by omega) (by omega)
  have b1 : S1.length ≤ 30 := by decide
  have b2 : S2.length ≤ 30 := by decide
  have b3 : S3.length ≤ 30 := by decide
  have b4 : S4.length ≤ 30 := by decide
  have b5 : S5.length ≤ 30 := by decide
  have b6 : S6.length ≤ 30 := by decide
  have b7 : S7.length ≤ 30 := by decide
  unfold line head
  simp only [List.length_append, List.length_cons, List.length_nil]
  omega

/-- The string that the law reads, and the places where its fields end. -/
theorem chain (ms i1 i2 i3 i4 i5 : Int) (zs : List Int) (n : Nat) (s : ByteArray) (hn : n ≤ 65536) (h0 : inI ms) (h1 : inI i1) (h2 : inI i2) (h3 : inI i3) (h4 : inI i4) (h5 : inI i5) (h : ∀ k, k < n → inI (zs.getD k 0)) (hs : s = ⟨(line ms i1 i2 i3 i4 i5 zs n).toArray⟩) :
    s.size ≤ 1073741824 ∧ ∃ p1 p2 p3 p4 p5 p6 p7 p8 p9 : Nat, (p1 ≤ 1073741824 ∧ p2 ≤ 1073741824 ∧ p3 ≤ 1073741824 ∧ p4 ≤ 1073741824 ∧ p5 ≤ 1073741824 ∧ p6 ≤ 1073741824 ∧ p7 ≤ 1073741824 ∧ p8 ≤ 1073741824 ∧ p9 ≤ 1073741824) ∧
      Hid (FieldAt s ⟨#[83, 67, 72, 69, 68, 32]⟩ 0 ms p1) ∧ Hid (FieldAt s ⟨#[109, 115, 58, 32, 103, 111, 109, 97, 120, 112, 114, 111, 99, 115, 61]⟩ p1 n p2) ∧ Hid (FieldAt s ⟨#[32, 105, 100, 108, 101, 112, 114, 111, 99, 115, 61]⟩ p2 i1 p3) ∧
      Hid (FieldAt s ⟨#[32, 116, 104, 114, 101, 97, 100, 115, 61]⟩ p3 i2 p4) ∧ Hid (FieldAt s ⟨#[32, 115, 112, 105, 110, 110, 105, 110, 103, 116, 104, 114, 101, 97, 100, 115, 61]⟩ p4 i3 p5) ∧
      Hid (FieldAt s ⟨#[32, 110, 101, 101, 100, 115, 112, 105, 110, 110, 105, 110, 103, 61]⟩ p5 0 p6) ∧ Hid (FieldAt s ⟨#[32, 105, 100, 108, 101, 116, 104, 114, 101, 97, 100, 115, 61]⟩ p6 i4 p7) ∧
      Hid (FieldAt s ⟨#[32, 114, 117, 110, 113, 117, 101, 117, 101, 61]⟩ p7 i5 p8) ∧ Hid (ExpAt s ⟨#[32, 91]⟩ p8 p9) ∧ Hid (Left s p9 (rem zs n 0)) := by
  have hsz : s.size ≤ 1073741824 := by
    rw [hs]
    show (line ms i1 i2 i3 i4 i5 zs n).toArray.size ≤ _
    rw [List.size_toArray]
    exact line_len ms i1 i2 i3 i4 i5 zs n hn h0 h1 h2 h3 h4 h5 h
  have A := Left.all (line ms i1 i2 i3 i4 i5 zs n)
  rw [← hs, line_eq] at A
  obtain ⟨p1, F1, A1⟩ := field_step s ⟨#[83, 67, 72, 69, 68, 32]⟩ 0 S1 ms _ h0 hsz A rfl (shut_cons 109 _ (.inr (by decide)))
  obtain ⟨p2, F2, A2⟩ := field_step s ⟨#[109, 115, 58, 32, 103, 111, 109, 97, 120, 112, 114, 111, 99, 115, 61]⟩ p1 S2 n _ ⟨by omega, by omega⟩ hsz A1 rfl (shut_cons 32 _ (.inl (by decide)))
  obtain ⟨p3, F3, A3⟩ := field_step s ⟨#[32, 105, 100, 108, 101, 112, 114, 111, 99, 115, 61]⟩ p2 S3 i1 _ h1 hsz A2 rfl (shut_cons 32 _ (.inl (by decide)))
  obtain ⟨p4, F4, A4⟩ := field_step s ⟨#[32, 116, 104, 114, 101, 97, 100, 115, 61]⟩ p3 S4 i2 _ h2 hsz A3 rfl (shut_cons 32 _ (.inl (by decide)))
  obtain ⟨p5, F5, A5⟩ := field_step s ⟨#[32, 115, 112, 105, 110, 110, 105, 110, 103, 116, 104, 114, 101, 97, 100, 115, 61]⟩ p4 S5 i3 _ h3 hsz A4 rfl (shut_cons 32 _ (.inl (by decide)))
  obtain ⟨p6, F6, A6⟩ := field_step s ⟨#[32, 110, 101, 101, 100, 115, 112, 105, 110, 110, 105, 110, 103, 61]⟩ p5 N6 0 _ ⟨by omega, by omega⟩ hsz A5 rfl (shut_cons 32 _ (.inl (by decide)))
  obtain ⟨p7, F7, A7⟩ := field_step s ⟨#[32, 105, 100, 108, 101, 116, 104, 114, 101, 97, 100, 115, 61]⟩ p6 I6 i4 _ h4 hsz A6 rfl (shut_cons 32 _ (.inl (by decide)))
  obtain ⟨p8, F8, A8⟩ := field_step s ⟨#[32, 114, 117, 110, 113, 117, 101, 117, 101, 61]⟩ p7 S7 i5 _ h5 hsz A7 rfl (shut_cons 32 _ (.inl (by decide)))
  obtain ⟨p9, F9, A9⟩ := exp_step s ⟨#[32, 91]⟩ p8 [32, 91] _ hsz A8 rfl
  have l1 := A1.le; have l2 := A2.le; have l3 := A3.le; have l4 := A4.le; have l5 := A5.le; have l6 := A6.le; have l7 := A7.le; have l8 := A8.le; have l9 := A9.le
  exact ⟨hsz, p1, p2, p3, p4, p5, p6, p7, p8, p9, ⟨by omega, by omega, by omega, by omega, by omega, by omega, by omega, by omega, by omega⟩, F1, F2, F3, F4, F5, F6, F7, F8, F9, A9⟩
end Go.Proofs.Qxb6615494aDoor
