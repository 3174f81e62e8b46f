import Derived.Test.Qxb6614690aDoorCards
import Derived.Test.Qxb6614690aDoorTie
import Derived.Test.Qxb6614690aDoorEof
import Derived.Test.Qxb6614690aDoorWalkA
import Derived.SevenTiedAt
namespace Go.Proofs.Qxb6614690aDoor
open Go.ChangeShapes Go.WideShapes Go.ChangeAt Go.RowKit
set_option linter.unusedVariables false

/-- A slice of bytes that came in: nil, or a row of 'cap' cells. -/
def IsRow (w : World) (a : Option Addr) (len cap : Nat) (zs : List Int) : Prop :=
  (a = none ∧ len = 0 ∧ cap = 0 ∧ zs = []) ∨
  ∃ x, a = some x ∧ len ≤ cap ∧ cap ≤ maxLen ∧ zs.length = cap ∧ (∀ i, i < zs.length → w.cell? (x.add i) = some (.int .u8 (zs.getD i 0))) ∧ ∀ n ∈ zs, (Lit.int .u8 n).wf = true

theorem byte_of_wf {zs : List Int} (h : ∀ n ∈ zs, (Lit.int .u8 n).wf = true) : Byte zs := fun z hz => by
  have := bounds_u8 (h z hz)
  omega

theorem src_of_cells {w : World} {x : Addr} {zs : List Int} {len : Nat} (h : ∀ i, i < zs.length → w.cell? (x.add i) = some (.int .u8 (zs.getD i 0))) :
    ∀ j v, ((zs.take len).map (Value.int .u8))[j]? = some v → w.cell? (x.add j) = some v := by
  intro j v hj
  simp only [List.getElem?_map, List.getElem?_take] at hj
  by_cases hl : j < len
  · rw [if_pos hl] at hj
    by_cases hz : j < zs.length
    · rw [List.getElem?_eq_getElem hz] at hj
      simp at hj
      subst hj
      rw [h j hz]
      simp [List.getD_eq_getElem?_getD, List.getElem?_eq_getElem hz]
    · rw [List.getElem?_eq_none (by omega)] at hj
      simp at hj
  · rw [if_neg hl] at hj
    simp at hj

theorem walkA (a0 : Option Addr) (len0 cap0 : Nat) (z0 : List Int) (eof : Addr) (w : World) (w0 : IsRow w a0 len0 cap0 z0) (hE : w.cell? ⟨0, 0, none⟩ = some (.iface 45 (.pointer (some eof)))) :
    Calls Tryd.prog 3 #[.slice a0 len0 cap0] w fun e w' => e = .returned (.bool true) ∧ Below w.heap.size w w' := by
  rcases w0 with ⟨rfl, rfl, rfl, rfl⟩ | ⟨x, rfl, hl, hm, hz, hcell, hwz⟩
  · exact walkA_nil eof w hE
  · by_cases hb : 1048576 < len0
    · exact walkA_big _ len0 cap0 w hb (by omega)
    · refine walkA_row x len0 cap0 (z0.take len0) eof w ?_ (src_of_cells hcell) ((byte_of_wf hwz).take len0) (by omega) hl hm hE
      show _ = _
      simp; omega

set_option maxRecDepth 100000 in
theorem liftedA (os : Os) (started : os.Started) (H : Type) (enc : TypeId × Value → H) :
    ReturnsInHanded {} Tryd.checked os 3 .any (fun w args => (Rows.fnErrorBodyDropsOneMarkAndKeepsTheRestSpec.pre enc Tryd.prog Tryd.f3 [] false w args ∧ laidMetH Tryd.prog laidE w) ∧ sizedMet enc Tryd.prog Tryd.f3 (OpenSpec.ofChange Rows.fnErrorBodyDropsOneMarkAndKeepsTheRestSpec) false w args)
      (Rows.fnErrorBodyDropsOneMarkAndKeepsTheRestSpec.post enc Tryd.prog Tryd.f3 false true false false) := by
  refine returnsInHanded_of_change_and (C := Tryd.checked) (X := fun w _ => laidMetH Tryd.prog laidE w) (fun _ _ _ hh h => h.of_heap hh) own started (by kernel_rfl) Tryd.func3
    (ChangeSpec.witness_shaped (enc := enc) (C := Tryd.checked) (os := os) (X := fun w _ => laidMetH Tryd.prog laidE w) false (World.doorLaid Tryd.prog 28 os) #[.slice none 0 0] 8 rfl (World.shaped_of_RefB (by kernel_rfl) (by kernel_rfl)) (by kernel_rfl) (by kernel_rfl) (by kernel_rfl) (door_met os _)) ?_
  intro W base args ds gs before hval0 hW _ _ hL _
  have hval : ∀ (j : Nat) t v, Tryd.f3.params[j]? = some t → args[j]? = some v → Value.okWide Tryd.prog W .any base t v := hval0
  have hW' := hW
  obtain ⟨p, q, hA0, hV, rfl, hfz, hnd⟩ := hW
  have hA : DataW.TrodAll enc Tryd.prog W 0 (fun _ => true) true Tryd.f3.params.toList args.toList ds p := hA0
  rw [Tryd.params3] at hA hval
  obtain ⟨v0, vs0, d0, ds0, p0, q0, hargs, rfl, rfl, h0, r0⟩ := trodAll_cons hA
  obtain ⟨rfl, rfl, rfl⟩ := trodAll_nil r0
  obtain rfl : args = #[v0] := by cases args; simp_all
  obtain ⟨rfl, rfl⟩ := trodVars_none hV
  obtain ⟨a0, len0, cap0, rfl⟩ := okWide_slice Tryd.underlying22 (hval 0 22 v0 rfl rfl)
  have k0 := h0
  have lt0 : ∀ x ∈ p0, x.block < W.heap.size := by obtain ⟨m, hm⟩ := k0; exact DataW.trod_lt m _ _ _ hm
  obtain ⟨z0, w0⟩ : ∃ zs, IsRow W a0 len0 cap0 zs := by
    obtain ⟨fuel, hf⟩ := h0
    rcases open_ints Tryd.underlying22 Tryd.underlying5 (by kernel_rfl) hf with ⟨hcs, _⟩ | ⟨x, l, c, zs, hcs, _, hl, hm, hz, _, hcell, hwz⟩
    · simp [Value.cells] at hcs
      obtain ⟨rfl, rfl, rfl⟩ := hcs
      exact ⟨[], .inl ⟨rfl, rfl, rfl, rfl⟩⟩
    · simp [Value.cells] at hcs
      obtain ⟨rfl, rfl, rfl⟩ := hcs
      exact ⟨zs, .inr ⟨_, rfl, hl, hm, by simpa using hz, hcell, hwz⟩⟩
  obtain ⟨eof, hE⟩ := eof_of_laid hL
  clear hA0 hval0
  refine (walkA a0 len0 cap0 z0 eof W w0 hE).mono fun e W' ⟨he, bel⟩ => ?_
  subst he
  exact ⟨_, rfl, _, _, _, [], _, [], hW', trodAll_mk1 (shut_bool Tryd.underlying4 _), (trodAll_cons_mk (Below.trod laidOut (by kernel_rfl) (of_decide_eq_true (by kernel_rfl)) k0 bel lt0) trodAll_mk0), rfl, bel.frame _, fun h => by cases h⟩

theorem holdsA : Rows.FnErrorBodyDropsOneMarkAndKeepsTheRestSaid :=
  OpenClaim.holds_of_wide 3 Tryd.f3 rfl rfl rfl rfl rfl rfl rfl ⟨rfl, rfl, rfl, rfl, rfl⟩ rfl rfl rfl rfl rfl (by kernel_rfl) Tryd.func3 (by kernel_rfl)
    (of_decide_eq_true (by kernel_rfl)) (by unfold Func.isWrapper; first | (rw [if_pos (by decide +kernel)]; kernel_rfl) | (rw [if_neg (by decide +kernel)]; exact ⟨rfl, rfl⟩))
    (fun os started H enc _ => liftedA os started H enc)

/-- THE STATEMENT. -/
theorem provedA : Rows.FnErrorBodyDropsOneMarkAndKeepsTheRestCardSaid :=
  Claim7.holds_tied_plain_at .later [] [.called] true (true, "f90f5619a7ca7bb5fc0b4810875c560455f10d33b0a501bac0fd0dd6b53a5629") true
    holdsA (fun _ h => by cases h) (by kernel_rfl) (fun _ h => by cases h) fnErrorBodyDropsOneMarkAndKeepsTheRest_row_tie rfl ⟨rfl, rfl⟩ (by kernel_rfl) rfl
    (fun f fn hf hfn => by
      obtain rfl : f = 3 := Option.some.inj ((show Tryd.prog.funcNamed Rows.fnErrorBodyDropsOneMarkAndKeepsTheRestRow.func = some 3 by kernel_rfl).symm.trans hf) |>.symm
      obtain rfl : fn = Tryd.f3 := (Option.some.inj (Tryd.func3.symm.trans hfn)).symm
      exact ⟨by kernel_rfl, fun j t ht => by
        rw [Tryd.params3] at ht
        have hm : t ∈ [22] := by simpa using Array.mem_of_getElem? ht
        have hall : ([22].all fun u => !Tryd.prog.wantsStandIn u) = true := by kernel_rfl
        exact (show Tryd.prog.wantsStandIn t = false by simpa using List.all_eq_true.1 hall t hm)⟩)
    (by kernel_rfl)
end Go.Proofs.Qxb6614690aDoor
