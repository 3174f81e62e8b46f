import Derived.Test.Qxb6615571aWalk
import Derived.ProofKit
import Derived.OpenShut
import Derived.ShutString
import Derived.ChangeOld
import Derived.Below
import Derived.Laws.Cover2
import Derived.Deep.Slices
import Derived.Lib.SmallJoins
namespace Go.Proofs.Qxb6615571a
open Go.ChangeShapes Go.WideShapes Go.ChangeAt Go.RowKit Go.Deep
set_option linter.unusedVariables false

theorem own : ownKnob Try.prog.godebug = none := by kernel_rfl
theorem laidOut : laidOutB Try.prog = true := by kernel_rfl

/-- A slice that came in is no longer than a slice may be. -/
theorem len_of {H : Type} {enc : TypeId × Value → H} {W : World} {t e : TypeId} {a0 : Option Addr} {len0 cap0 : Nat} {d0 : DataW H} {p0 : List MemPlace} (ht : Try.prog.underlying t = some (.slice e)) (hc : Try.prog.cellsOf e = 1)
    (h0 : DataW.Trod enc Try.prog W 0 (fun _ => true) true t (.slice a0 len0 cap0) d0 p0) : len0 ≤ maxLen := by
  obtain ⟨fuel, hf⟩ := h0
  rcases open_slice1 ht hc hf with ⟨hcs, _⟩ | ⟨a, len, cap, m, n, V, D, Pl, hcs, _, hl, hm, hmm, _, hx⟩
  · simp [Value.cells] at hcs
    obtain ⟨rfl, rfl, rfl⟩ := hcs
    exact Nat.zero_le _
  · simp [Value.cells] at hcs
    obtain ⟨rfl, rfl, rfl⟩ := hcs
    omega

theorem row_of {H : Type} {enc : TypeId × Value → H} {W : World} {a0 : Option Addr} {len0 cap0 : Nat} {d0 : DataW H} {p0 : List MemPlace}
    (h0 : DataW.Trod enc Try.prog W 0 (fun _ => true) true 23 (.slice a0 len0 cap0) d0 p0) : IsRow W a0 len0 cap0 := by
  obtain ⟨fuel, hf⟩ := h0
  rcases open_ints Try.underlying23 Try.underlying22 (by kernel_rfl) hf with ⟨hcs, _⟩ | ⟨x, l, c, zs, hcs, _, hl, hm, hz, _, hcell, hwz⟩
  · simp [Value.cells] at hcs
    obtain ⟨rfl, rfl, rfl⟩ := hcs
    exact .inl ⟨rfl, rfl, rfl⟩
  · simp [Value.cells] at hcs
    obtain ⟨rfl, rfl, rfl⟩ := hcs
    have hz' : zs.length = cap0 := by simpa using hz
    exact .inr ⟨_, rfl, fun k hk => ⟨_, hcell k (by omega)⟩⟩

set_option maxRecDepth 100000 in
theorem liftedA (os : Os) (started : os.Started) (H : Type) (enc : TypeId × Value → H) :
    ReturnsInHanded {} Try.checked os 3 .any (Rows.fnAckKeyMatchesItsRequestSpec.pre6 enc Try.prog Try.f3 Rows.fnAckKeyMatchesItsRequestRow.domain false) (Rows.fnAckKeyMatchesItsRequestSpec.post enc Try.prog Try.f3 false true false false) := by
  refine returnsInHanded_of_change (C := Try.checked) own started (by kernel_rfl) Try.func3
    (ChangeSpec.witness6 (enc := enc) (C := Try.checked) false ⟨#[], #[.int .u64 0, .int .u64 0, .int .i64 0, .int .u8 0, .slice none 0 0, .int .u64 0, .int .u64 0, .int .i64 0, .int .u8 0, .slice none 0 0, .slice none 0 0], []⟩ 8 (by kernel_rfl) (by kernel_rfl) (by kernel_rfl) (by kernel_rfl)) ?_
  intro W base args ds gs before hval0 hW hcnd _
  have hval : ∀ (j : Nat) t v, Try.f3.params[j]? = some t → args[j]? = some v → Value.okWide Try.prog W .any base t v := hval0
  have hW' := hW
  obtain ⟨p, q, hA0, hV, rfl, hfz, hnd⟩ := hW
  have hA : DataW.TrodAll enc Try.prog W 0 (fun _ => true) true Try.f3.params.toList args.toList ds p := hA0
  rw [Try.params3] at hA hval
  obtain ⟨v0, vs0, d0, ds0, p0, q0, hargs, rfl, rfl, h0, r0⟩ := trodAll_cons hA
  obtain ⟨v1, vs1, d1, ds1, p1, q1, rfl, rfl, rfl, h1, r1⟩ := trodAll_cons r0
  obtain ⟨v2, vs2, d2, ds2, p2, q2, rfl, rfl, rfl, h2, r2⟩ := trodAll_cons r1
  obtain ⟨v3, vs3, d3, ds3, p3, q3, rfl, rfl, rfl, h3, r3⟩ := trodAll_cons r2
  obtain ⟨v4, vs4, d4, ds4, p4, q4, rfl, rfl, rfl, h4, r4⟩ := trodAll_cons r3
  obtain ⟨v5, vs5, d5, ds5, p5, q5, rfl, rfl, rfl, h5, r5⟩ := trodAll_cons r4
  obtain ⟨v6, vs6, d6, ds6, p6, q6, rfl, rfl, rfl, h6, r6⟩ := trodAll_cons r5
  obtain ⟨v7, vs7, d7, ds7, p7, q7, rfl, rfl, rfl, h7, r7⟩ := trodAll_cons r6
  obtain ⟨v8, vs8, d8, ds8, p8, q8, rfl, rfl, rfl, h8, r8⟩ := trodAll_cons r7
  obtain ⟨v9, vs9, d9, ds9, p9, q9, rfl, rfl, rfl, h9, r9⟩ := trodAll_cons r8
  obtain ⟨v10, vs10, d10, ds10, p10, q10, rfl, rfl, rfl, h10, r10⟩ := trodAll_cons r9
  obtain ⟨rfl, rfl, rfl⟩ := trodAll_nil r10
  obtain rfl : args = #[v0, v1, v2, v3, v4, v5, v6, v7, v8, v9, v10] := by cases args; simp_all
  obtain ⟨rfl, rfl⟩ := trodVars_none hV
  obtain ⟨o, rfl, rfl, rfl, f0⟩ := open_int Try.underlying22 (hval 0 22 v0 rfl rfl) h0
  obtain ⟨i, rfl, rfl, rfl, f1⟩ := open_int Try.underlying22 (hval 1 22 v1 rfl rfl) h1
  obtain ⟨h, rfl, rfl, rfl, f2⟩ := open_int Try.underlying3 (hval 2 3 v2 rfl rfl) h2
  obtain ⟨op, rfl, rfl, rfl, f3⟩ := open_int Try.underlying5 (hval 3 5 v3 rfl rfl) h3
  obtain ⟨a4, len4, cap4, rfl⟩ := okWide_slice Try.underlying23 (hval 4 23 v4 rfl rfl)
  have k4 := h4
  have lt4 : ∀ x ∈ p4, x.block < W.heap.size := by obtain ⟨m, hm⟩ := k4; exact DataW.trod_lt m _ _ _ hm
  obtain ⟨ro, rfl, rfl, rfl, f5⟩ := open_int Try.underlying22 (hval 5 22 v5 rfl rfl) h5
  obtain ⟨ri, rfl, rfl, rfl, f6⟩ := open_int Try.underlying22 (hval 6 22 v6 rfl rfl) h6
  obtain ⟨rh, rfl, rfl, rfl, f7⟩ := open_int Try.underlying3 (hval 7 3 v7 rfl rfl) h7
  obtain ⟨rop, rfl, rfl, rfl, f8⟩ := open_int Try.underlying5 (hval 8 5 v8 rfl rfl) h8
  obtain ⟨a9, len9, cap9, rfl⟩ := okWide_slice Try.underlying24 (hval 9 24 v9 rfl rfl)
  have k9 := h9
  have lt9 : ∀ x ∈ p9, x.block < W.heap.size := by obtain ⟨m, hm⟩ := k9; exact DataW.trod_lt m _ _ _ hm
  obtain ⟨a10, len10, cap10, rfl⟩ := okWide_slice Try.underlying25 (hval 10 25 v10 rfl rfl)
  have k10 := h10
  have lt10 : ∀ x ∈ p10, x.block < W.heap.size := by obtain ⟨m, hm⟩ := k10; exact DataW.trod_lt m _ _ _ hm
  have s4 := row_of h4
  have m4 := len_of Try.underlying23 (by kernel_rfl) h4
  have m9 := len_of Try.underlying24 (by kernel_rfl) h9
  have m10 := len_of Try.underlying25 (by kernel_rfl) h10
  clear hA0 hval0
  refine (law_all o i h op ro ri rh rop a4 a9 a10 len4 len9 len10 cap4 cap9 cap10 W m4 m9 m10 s4).mono fun e W' ⟨he, bel⟩ => ?_
  subst he
  exact ⟨_, rfl, _, _, _, [], _, [], hW', trodAll_mk1 (shut_bool Try.underlying4 _), (trodAll_cons_mk (shut_int Try.underlying22 f0) (trodAll_cons_mk (shut_int Try.underlying22 f1) (trodAll_cons_mk (shut_int Try.underlying3 f2) (trodAll_cons_mk (shut_int Try.underlying5 f3) (trodAll_cons_mk (Below.trod laidOut (by kernel_rfl) (of_decide_eq_true (by kernel_rfl)) k4 bel lt4) (trodAll_cons_mk (shut_int Try.underlying22 f5) (trodAll_cons_mk (shut_int Try.underlying22 f6) (trodAll_cons_mk (shut_int Try.underlying3 f7) (trodAll_cons_mk (shut_int Try.underlying5 f8) (trodAll_cons_mk (Below.trod laidOut (by kernel_rfl) (of_decide_eq_true (by kernel_rfl)) k9 bel lt9) (trodAll_cons_mk (Below.trod laidOut (by kernel_rfl) (of_decide_eq_true (by kernel_rfl)) k10 bel lt10) trodAll_mk0))))))))))), rfl, bel.frame _, fun h => by cases h⟩

/-- THE STATEMENT. -/
theorem provedA : Rows.FnAckKeyMatchesItsRequestSaid :=
  OpenClaim.holds_of_wide 3 Try.f3 rfl rfl rfl rfl rfl rfl rfl ⟨rfl, rfl, rfl, rfl, rfl⟩ rfl rfl rfl rfl rfl (by kernel_rfl) Try.func3 (by kernel_rfl)
    (of_decide_eq_true (by kernel_rfl)) (by unfold Func.isWrapper; first | (rw [if_pos (by decide +kernel)]; kernel_rfl) | (rw [if_neg (by decide +kernel)]; exact ⟨rfl, rfl⟩))
    (fun os started H enc _ => liftedA os started H enc)
end Go.Proofs.Qxb6615571a
