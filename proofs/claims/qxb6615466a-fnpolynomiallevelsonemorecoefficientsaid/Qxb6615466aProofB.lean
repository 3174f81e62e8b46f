import Derived.Test.Qxb6615466aOpen
import Derived.Test.Qxb6615466aWalkB
namespace Go.Proofs.Qxb6615466a
open Go.ChangeShapes Go.WideShapes Go.ChangeAt Go.RowKit
set_option linter.unusedVariables false

theorem walkB (x0 x1 y : Nat) (a0 : Option Addr) (len0 cap0 : Nat) (w : World) (w0 : IsRow w a0 len0 cap0) :
    Calls Try.prog 4 #[.agg #[.float .f64 x0, .float .f64 x1], .slice a0 len0 cap0, .float .f64 y] w fun e w' => e = .returned (.bool true) ∧ Below w.heap.size w w' := by
  rcases w0 with ⟨rfl, rfl, rfl⟩ | ⟨x, cs, rfl, hl, hm, hz, hcell, hfl⟩
  · exact walkB_nil x0 x1 y w
  · by_cases hb : 131072 < len0
    · exact walkB_big x0 x1 y len0 cap0 _ w (by omega) hb
    · exact walkB_row x0 x1 y len0 cap0 x cs w hz hcell hfl (by omega) hl hm

set_option maxRecDepth 100000 in
theorem liftedB (os : Os) (started : os.Started) (H : Type) (enc : TypeId × Value → H) :
    ReturnsInHanded {} Try.checked os 4 .any (Rows.fnPolynomialLevelsOneMoreCoefficientSpec.pre6 enc Try.prog Try.f4 Rows.fnPolynomialLevelsOneMoreCoefficientRow.domain false) (Rows.fnPolynomialLevelsOneMoreCoefficientSpec.post enc Try.prog Try.f4 false true false false) := by
  refine returnsInHanded_of_change (C := Try.checked) own started (by kernel_rfl) Try.func4
    (ChangeSpec.witness6 (enc := enc) (C := Try.checked) false ⟨#[], #[.agg #[.float .f64 0, .float .f64 0], .slice none 0 0, .float .f64 0], []⟩ 8 (by kernel_rfl) (by kernel_rfl) (by kernel_rfl) (by kernel_rfl)) ?_
  intro W base args ds gs before hval0 hW hcnd _
  have hval : ∀ (j : Nat) t v, Try.f4.params[j]? = some t → args[j]? = some v → Value.okWide Try.prog W .any base t v := hval0
  have hW' := hW
  obtain ⟨p, q, hA0, hV, rfl, hfz, hnd⟩ := hW
  have hA : DataW.TrodAll enc Try.prog W 0 (fun _ => true) true Try.f4.params.toList args.toList ds p := hA0
  rw [Try.params4] at hA hval
  obtain ⟨v0, vs0, d0, ds0, p0, q0, hargs, rfl, rfl, h0, r0⟩ := trodAll_cons hA
  obtain ⟨v1, vs1, d1, ds1, p1, q1, rfl, rfl, rfl, h1, r1⟩ := trodAll_cons r0
  obtain ⟨v2, vs2, d2, ds2, p2, q2, rfl, rfl, rfl, h2, r2⟩ := trodAll_cons r1
  obtain ⟨rfl, rfl, rfl⟩ := trodAll_nil r2
  obtain rfl : args = #[v0, v1, v2] := by cases args; simp_all
  obtain ⟨rfl, rfl⟩ := trodVars_none hV
  obtain ⟨x0, x1, rfl⟩ := open_pair (hval 0 23 v0 rfl rfl) h0
  obtain ⟨a1, len1, cap1, rfl⟩ := okWide_slice Try.underlying24 (hval 1 24 v1 rfl rfl)
  obtain ⟨y, rfl, rfl, rfl, wy⟩ := open_float Try.underlying22 (hval 2 22 v2 rfl rfl) h2
  have k0 := h0
  have k1 := h1
  have lt0 : ∀ x ∈ p0, x.block < W.heap.size := by obtain ⟨m, hm⟩ := k0; exact DataW.trod_lt m _ _ _ hm
  have lt1 : ∀ x ∈ p1, x.block < W.heap.size := by obtain ⟨m, hm⟩ := k1; exact DataW.trod_lt m _ _ _ hm
  have w1 := open_row h1
  clear hA0 hval0
  refine (walkB x0 x1 y a1 len1 cap1 W w1).mono fun e W' ⟨he, bel⟩ => ?_
  subst he
  exact ⟨_, rfl, _, _, _, [], _, [], hW', trodAll_mk1 (shut_bool Try.underlying4 _), (trodAll_cons_mk (Below.trod laidOut (by kernel_rfl) (of_decide_eq_true (by kernel_rfl)) k0 bel lt0) (trodAll_cons_mk (Below.trod laidOut (by kernel_rfl) (of_decide_eq_true (by kernel_rfl)) k1 bel lt1) (trodAll_cons_mk (shut_float Try.underlying22 wy) trodAll_mk0))), rfl, bel.frame _, fun h => by cases h⟩

/-- THE STATEMENT. -/
theorem provedB : Rows.FnPolynomialLevelsOneMoreCoefficientSaid :=
  OpenClaim.holds_of_wide 4 Try.f4 rfl rfl rfl rfl rfl rfl rfl ⟨rfl, rfl, rfl, rfl, rfl⟩ rfl rfl rfl rfl rfl (by kernel_rfl) Try.func4 (by kernel_rfl)
    (of_decide_eq_true (by kernel_rfl)) (by unfold Func.isWrapper; first | (rw [if_pos (by decide +kernel)]; kernel_rfl) | (rw [if_neg (by decide +kernel)]; exact ⟨rfl, rfl⟩))
    (fun os started H enc _ => liftedB os started H enc)
end Go.Proofs.Qxb6615466a
