import Derived.Test.Qxb6615466aRows
import Derived.WalkKit
import Derived.ProofKit
import Derived.OpenShut
import Derived.ShutString
import Derived.ChangeOld
import Derived.Below
import Derived.Laws.Cover2
import Derived.Deep.Slices
import Derived.Lib.SmallJoins
namespace Go.Proofs.Qxb6615466a
open Go.ChangeShapes Go.WideShapes Go.ChangeAt Go.RowKit Go.Deep
set_option linter.unusedVariables false

theorem own : ownKnob Try.prog.godebug = none := by kernel_rfl
theorem laidOut : laidOutB Try.prog = true := by kernel_rfl
theorem cells22 : Try.prog.cellsOf 22 = 1 := by kernel_rfl
theorem cells23 : Try.prog.cellsOf 23 = 2 := by kernel_rfl

theorem float_of_trod {H : Type} {enc : TypeId × Value → H} {W : World} {base fuel : Nat} {sp : Nat → Bool} {held : Bool} {v : Value} {x : DataW H × List MemPlace}
    (h : DataW.trod enc Try.prog W base sp held fuel 22 [v] = some x) : ∃ b, v = .float .f64 b := by
  cases fuel with
  | zero => simp [DataW.trod] at h
  | succ n =>
    simp only [DataW.trod, Try.underlying22] at h
    cases v <;> simp at h
    case float k b =>
      obtain ⟨⟨rfl, _⟩, _⟩ := h
      exact ⟨b, rfl⟩

theorem open_pair {H : Type} {enc : TypeId × Value → H} {W : World} {b0 base : Nat} {sp : Nat → Bool} {held : Bool} {v : Value} {d : DataW H} {p : List MemPlace}
    (hv : Value.okWide Try.prog W .any b0 23 v) (h : DataW.Trod enc Try.prog W base sp held 23 v d p) : ∃ x0 x1, v = .agg #[.float .f64 x0, .float .f64 x1] := by
  simp only [Value.okWide, Try.underlying23] at hv
  obtain ⟨cs, rfl, hs, -⟩ := hv
  rw [cells23] at hs
  obtain ⟨c0, c1, rfl⟩ := Joins.array2 hs
  obtain ⟨fuel, hf⟩ := h
  obtain ⟨xs, m, -, -, -, hl, hi⟩ := DataW.trod_array Try.underlying23 hf
  have h0 := hi 0 (by omega)
  have h1 := hi 1 (by omega)
  rw [cells22] at h0 h1
  simp [Value.cells] at h0 h1
  rw [List.getElem?_eq_getElem (by omega)] at h0 h1
  obtain ⟨x0, rfl⟩ := float_of_trod h0
  obtain ⟨x1, rfl⟩ := float_of_trod h1
  exact ⟨x0, x1, rfl⟩

/-- A slice of floats that came in: nil, or the elements' cells. -/
def IsRow (w : World) (a : Option Addr) (len cap : Nat) : Prop :=
  (a = none ∧ len = 0 ∧ cap = 0) ∨
  ∃ (x : Addr) (cs : List Value), a = some x ∧ len ≤ cap ∧ cap ≤ maxLen ∧ cs.length = len ∧ (∀ (j : Nat) (v : Value), cs[j]? = some v → w.cell? (x.add j) = some v) ∧ ∀ v ∈ cs, ∃ b, v = .float .f64 b

theorem open_row {H : Type} {enc : TypeId × Value → H} {W : World} {a0 : Option Addr} {len0 cap0 : Nat} {d0 : DataW H} {p0 : List MemPlace}
    (h0 : DataW.Trod enc Try.prog W 0 (fun _ => true) true 24 (.slice a0 len0 cap0) d0 p0) : IsRow W a0 len0 cap0 := by
  obtain ⟨fuel, hf⟩ := h0
  rcases open_slice1 Try.underlying24 cells22 hf with ⟨hcs, _⟩ | ⟨a, len, cap, m, n, V, D, Pl, hcs, _, hl, hm, hmm, _, hx⟩
  · simp [Value.cells] at hcs
    obtain ⟨rfl, rfl, rfl⟩ := hcs
    exact .inl ⟨rfl, rfl, rfl⟩
  · simp [Value.cells] at hcs
    obtain ⟨rfl, rfl, rfl⟩ := hcs
    have hm2 : m = cap0 := by simpa using hmm
    refine .inr ⟨a, (List.range len0).map V, rfl, hl, hm, by simp, ?_, ?_⟩
    · intro j v hj
      simp only [List.getElem?_map] at hj
      by_cases hjl : j < len0
      · rw [List.getElem?_range hjl] at hj
        simp at hj
        subst hj
        exact (hx j (by omega)).1
      · rw [List.getElem?_eq_none (by simp; omega)] at hj
        simp at hj
    · intro v hv
      obtain ⟨j, hj, rfl⟩ := List.mem_map.1 hv
      have hjl := List.mem_range.1 hj
      exact float_of_trod (hx j (by omega)).2
end Go.Proofs.Qxb6615466a
