import Derived.Test.Qxb6615494aDoorRows
import Derived.WalkKit
import Derived.WalkSpells
import Derived.WalkLawsBesides
import Derived.Deep.QuietTactic
import Derived.BigQuiet
namespace Go.Proofs.Qxb6615494aDoor
open Go.RowKit
set_option linter.unusedVariables false

/-- The bytes l stand in s from place p on. -/
def HasAt (s : ByteArray) (p : Nat) (l : List UInt8) : Prop := ∀ k, (h : k < l.length) → ∃ h' : p + k < s.size, s[p + k] = l[k]

theorem HasAt.le {s : ByteArray} {p : Nat} {l : List UInt8} (h : HasAt s p l) (hp : p ≤ s.size) : p + l.length ≤ s.size := by
  by_cases h0 : l.length = 0
  · omega
  · obtain ⟨h', _⟩ := h (l.length - 1) (by omega)
    omega

theorem index_at (s : ByteArray) (j : Nat) (i : Int) (hi : i = (j : Int)) (h : j < s.size) (w : World) : (Instr.index 9 (.string s) (.int .i64 i)).run Tryd.prog w = .ok (.int .u8 ((s[j]'h).toNat : Int)) w := by
  subst hi
  rw [run_index_string (P := Tryd.prog) (w := w) 9 s .i64 (j : Int) Tryd.underlying9]
  simp [h]

set_option maxHeartbeats 400000 in
theorem expect_ok (s lit : ByteArray) (p : Nat) (w : World) (h : HasAt s p lit.data.toList) (hs : s.size ≤ maxLen) (hp : p ≤ s.size) :
    Calls Tryd.prog 9 #[.string s, .int .i64 p, .string lit] w fun e w' => e = .returned (.tuple #[.int .i64 ((p + lit.size : Nat) : Int), .bool true]) ∧ ∃ n, w' = w.drewN n := by
  unfold maxLen at hs
  have hl : lit.data.toList.length = lit.size := Array.length_toList
  have hle : p + lit.size ≤ s.size := by have := h.le hp; omega
  have H : Hid (HasAt s p lit.data.toList) := h
  clear h hl
  go_enter Tryd.func9, Tryd.ntmps9
  go_wp2
  go_loopw [8] (fun i wr => ∃ k : Nat, k ≤ lit.size ∧ i = .int .i64 k ∧ ∃ n, wr = w.drewN n) (fun i _ => lit.size - (intOf i).toNat)
  case atStart => exact ⟨0, Nat.zero_le _, rfl, 0, rfl⟩
  case round =>
    obtain ⟨k, hk, rfl, n, rfl⟩ := hrel
    by_cases hlt : k < lit.size
    · have hpk : p + k < s.size := by omega
      have heq : s[p + k] = lit[k] := by
        obtain ⟨_, e⟩ := H.out k (Nat.lt_of_lt_of_eq hlt Array.length_toList.symm)
        exact e
      have hwr : IntKind.i64.wrap ((p : Int) + (k : Int)) = (p : Int) + (k : Int) := by rw [IntKind.wrap_i64]; omega
      have hix := fun wx => index_at s (p + k) ((p : Int) + (k : Int)) (by omega) hpk wx
      rw [heq] at hix
      clear heq
      go_wp2
      go_quiet (fail)
      go_wp2
      go_roundw
      case rel => exact ⟨k + 1, by omega, by go_num, _, rfl⟩
      case measure => simp [intOf]; omega
    · go_wp2
      go_ret2
      exact ⟨rfl, n, rfl⟩
end Go.Proofs.Qxb6615494aDoor
