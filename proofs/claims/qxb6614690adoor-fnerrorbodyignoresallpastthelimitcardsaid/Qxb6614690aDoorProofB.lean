import Derived.Test.Qxb6614690aDoorCards
import Derived.Test.Qxb6614690aDoorTie
import Derived.Test.Qxb6614690aDoorEof
import Derived.Test.Qxb6614690aDoorWalkB
import Derived.SevenTiedAt
namespace Go.Proofs.Qxb6614690aDoor
open Go.ChangeShapes Go.WideShapes Go.ChangeAt Go.RowKit
set_option linter.unusedVariables false

/-- A slice of bytes that came in: nil, or a row of 'cap' cells. -/
def IsRow (w : World) (a : Option Addr) (len cap : Nat) (zs : List Int) : Prop :=
  (a = none ∧ len = 0 ∧ cap = 0 ∧ zs = []) ∨
  ∃ x, a = some x ∧ len ≤ cap ∧ cap ≤ maxLen ∧ zs.length = cap ∧ (∀ i, i < zs.length → w.cell? (x.add i) = some (.int .u8 (zs.getD i 0))) ∧ ∀ n ∈ zs, (Lit.int .u8 n).wf = true

theorem byte_of_wf {zs : List Int} (h : ∀ n ∈ zs, (Lit.int .u8 n).wf = true) : Byte zs := fun z hz => by
  have := bounds_u8 (h z hz)
  omega

theorem src_of_cells {w : World} {x : Addr} {zs : List Int} {len : Nat} (h : ∀ i, i < zs.length → w.cell? (x.add i) = some (.int .u8 (zs.getD i 0))) :
    ∀ j v, ((zs.take len).map (Value.int .u8))[j]? = some v → w.cell? (x.add j) = some v := by
  intro j v hj
  simp only [List.getElem?_map, List.getElem?_take] at hj
  by_cases hl : j < len
  · rw [if_pos hl] at hj
    by_cases hz : j < zs.length
    · rw [List.getElem?_eq_getElem hz] at hj
      simp at hj
      subst hj
      rw [h j hz]
      simp [List.getD_eq_getElem?_getD, List.getElem?_eq_getElem hz]
    · rw [List.getElem?_eq_none (by omega)] at hj
      simp at hj
  · rw [if_neg hl] at hj
    simp at hj

theorem walkB (a0 : Option Addr) (len0 cap0 : Nat) (z0 : List Int) (a1 : Option Addr) (len1 cap1 : Nat) (z1 : List Int) (eof : Addr) (w : World) (w0 : IsRow w a0 len0 cap0 z0) (w1 : IsRow w a1 len1 cap1 z1) (hE : w.cell? ⟨0, 0, none⟩ = some (.iface 45 (.pointer (some eof)))) :
    Calls Tryd.prog 4 #[.slice a0 len0 cap0, .slice a1 len1 cap1] w fun e w' => e = .returned (.bool true) ∧ Below w.heap.size w w' := by
  have m0 : len0 ≤ maxLen := by rcases w0 with ⟨rfl, rfl, rfl, rfl⟩ | ⟨x, rfl, hl, hm, _⟩ <;> omega
  have m1 : len1 ≤ maxLen := by rcases w1 with ⟨rfl, rfl, rfl, rfl⟩ | ⟨x, rfl, hl, hm, _⟩ <;> omega
  by_cases hb : 65536 ≤ len0 ∧ len0 ≤ 524288 ∧ len1 ≤ 524288
  · obtain ⟨b1, b2, b3⟩ := hb
    rcases w0 with ⟨rfl, rfl, rfl, rfl⟩ | ⟨x, rfl, hl, hm, hz, hcell, hwz⟩
    · omega
    · rcases w1 with ⟨rfl, rfl, rfl, rfl⟩ | ⟨y, rfl, hl1, hm1, hz1, hcell1, hwz1⟩
      · exact walkB_row x len0 cap0 (z0.take len0) none 0 0 [] eof w (show _ = _ by simp; omega) rfl (src_of_cells hcell) ((byte_of_wf hwz).take len0) (fun _ => ⟨rfl, rfl⟩) (fun ad h => by cases h) (fun z hz => by simp at hz) b1 b2 (by omega) hl hm hE
      · exact walkB_row x len0 cap0 (z0.take len0) (some y) len1 cap1 (z1.take len1) eof w (show _ = _ by simp; omega) (show _ = _ by simp; omega) (src_of_cells hcell) ((byte_of_wf hwz).take len0) (fun h => by cases h) (fun ad h => by cases h; exact src_of_cells hcell1) ((byte_of_wf hwz1).take len1) b1 b2 b3 hl hm hE
  · exact walkB_early a0 a1 len0 cap0 len1 cap1 w m0 m1 hb

theorem open_row {H : Type} {enc : TypeId × Value → H} {W : World} {a0 : Option Addr} {len0 cap0 : Nat} {d0 : DataW H} {p0 : List MemPlace}
    (h0 : DataW.Trod enc Tryd.prog W 0 (fun _ => true) true 22 (.slice a0 len0 cap0) d0 p0) : ∃ zs, IsRow W a0 len0 cap0 zs := by
  obtain ⟨fuel, hf⟩ := h0
  rcases open_ints Tryd.underlying22 Tryd.underlying5 (by kernel_rfl) hf with ⟨hcs, _⟩ | ⟨x, l, c, zs, hcs, _, hl, hm, hz, _, hcell, hwz⟩
  · simp [Value.cells] at hcs
    obtain ⟨rfl, rfl, rfl⟩ := hcs
    exact ⟨[], .inl ⟨rfl, rfl, rfl, rfl⟩⟩
  · simp [Value.cells] at hcs
    obtain ⟨rfl, rfl, rfl⟩ := hcs
    exact ⟨zs, .inr ⟨_, rfl, hl, hm, by simpa using hz, hcell, hwz⟩⟩

set_option maxRecDepth 100000 in
theorem liftedB (os : Os) (started : os.Started) (H : Type) (enc : TypeId × Value → H) :
    ReturnsInHanded {} Tryd.checked os 4 .any (fun w args => (Rows.fnErrorBodyIgnoresAllPastTheLimitSpec.pre enc Tryd.prog Tryd.f4 [] false w args ∧ laidMetH Tryd.prog laidE w) ∧ sizedMet enc Tryd.prog Tryd.f4 (OpenSpec.ofChange Rows.fnErrorBodyIgnoresAllPastTheLimitSpec) false w args)
      (Rows.fnErrorBodyIgnoresAllPastTheLimitSpec.post enc Tryd.prog Tryd.f4 false true false false) := by
  refine returnsInHanded_of_change_and (C := Tryd.checked) (X := fun w _ => laidMetH Tryd.prog laidE w) (fun _ _ _ hh h => h.of_heap hh) own started (by kernel_rfl) Tryd.func4
    (ChangeSpec.witness_shaped (enc := enc) (C := Tryd.checked) (os := os) (X := fun w _ => laidMetH Tryd.prog laidE w) false (World.doorLaid Tryd.prog 28 os) #[.slice none 0 0, .slice none 0 0] 8 rfl (World.shaped_of_RefB (by kernel_rfl) (by kernel_rfl)) (by kernel_rfl) (by kernel_rfl) (by kernel_rfl) (door_met os _)) ?_
  intro W base args ds gs before hval0 hW _ _ hL _
  have hval : ∀ (j : Nat) t v, Tryd.f4.params[j]? = some t → args[j]? = some v → Value.okWide Tryd.prog W .any base t v := hval0
  have hW' := hW
  obtain ⟨p, q, hA0, hV, rfl, hfz, hnd⟩ := hW
  have hA : DataW.TrodAll enc Tryd.prog W 0 (fun _ => true) true Tryd.f4.params.toList args.toList ds p := hA0
  rw [Tryd.params4] at hA hval
  obtain ⟨v0, vs0, d0, ds0, p0, q0, hargs, rfl, rfl, h0, r0⟩ := trodAll_cons hA
  obtain ⟨v1, vs1, d1, ds1, p1, q1, rfl, rfl, rfl, h1, r1⟩ := trodAll_cons r0
  obtain ⟨rfl, rfl, rfl⟩ := trodAll_nil r1
  obtain rfl : args = #[v0, v1] := by cases args; simp_all
  obtain ⟨rfl, rfl⟩ := trodVars_none hV
  obtain ⟨a0, len0, cap0, rfl⟩ := okWide_slice Tryd.underlying22 (hval 0 22 v0 rfl rfl)
  obtain ⟨a1, len1, cap1, rfl⟩ := okWide_slice Tryd.underlying22 (hval 1 22 v1 rfl rfl)
  have k0 := h0
  have k1 := h1
  have lt0 : ∀ x ∈ p0, x.block < W.heap.size := by obtain ⟨m, hm⟩ := k0; exact DataW.trod_lt m _ _ _ hm
  have lt1 : ∀ x ∈ p1, x.block < W.heap.size := by obtain ⟨m, hm⟩ := k1; exact DataW.trod_lt m _ _ _ hm
  obtain ⟨z0, w0⟩ := open_row h0
  obtain ⟨z1, w1⟩ := open_row h1
  obtain ⟨eof, hE⟩ := eof_of_laid hL
  clear hA0 hval0
  refine (walkB a0 len0 cap0 z0 a1 len1 cap1 z1 eof W w0 w1 hE).mono fun e W' ⟨he, bel⟩ => ?_
  subst he
  exact ⟨_, rfl, _, _, _, [], _, [], hW', trodAll_mk1 (shut_bool Tryd.underlying4 _), (trodAll_cons_mk (Below.trod laidOut (by kernel_rfl) (of_decide_eq_true (by kernel_rfl)) k0 bel lt0) (trodAll_cons_mk (Below.trod laidOut (by kernel_rfl) (of_decide_eq_true (by kernel_rfl)) k1 bel lt1) trodAll_mk0)), rfl, bel.frame _, fun h => by cases h⟩

theorem holdsB : Rows.FnErrorBodyIgnoresAllPastTheLimitSaid :=
  OpenClaim.holds_of_wide 4 Tryd.f4 rfl rfl rfl rfl rfl rfl rfl ⟨rfl, rfl, rfl, rfl, rfl⟩ rfl rfl rfl rfl rfl (by kernel_rfl) Tryd.func4 (by kernel_rfl)
    (of_decide_eq_true (by kernel_rfl)) (by unfold Func.isWrapper; first | (rw [if_pos (by decide +kernel)]; kernel_rfl) | (rw [if_neg (by decide +kernel)]; exact ⟨rfl, rfl⟩))
    (fun os started H enc _ => liftedB os started H enc)

/-- THE STATEMENT. -/
theorem provedB : Rows.FnErrorBodyIgnoresAllPastTheLimitCardSaid :=
  Claim7.holds_tied_plain_at .later [] [.called] true (true, "f90f5619a7ca7bb5fc0b4810875c560455f10d33b0a501bac0fd0dd6b53a5629") true
    holdsB (fun _ h => by cases h) (by kernel_rfl) (fun _ h => by cases h) fnErrorBodyIgnoresAllPastTheLimit_row_tie rfl ⟨rfl, rfl⟩ (by kernel_rfl) rfl
    (fun f fn hf hfn => by
      obtain rfl : f = 4 := Option.some.inj ((show Tryd.prog.funcNamed Rows.fnErrorBodyIgnoresAllPastTheLimitRow.func = some 4 by kernel_rfl).symm.trans hf) |>.symm
      obtain rfl : fn = Tryd.f4 := (Option.some.inj (Tryd.func4.symm.trans hfn)).symm
      exact ⟨by kernel_rfl, fun j t ht => by
        rw [Tryd.params4] at ht
        have hm : t ∈ [22, 22] := by simpa using Array.mem_of_getElem? ht
        have hall : ([22, 22].all fun u => !Tryd.prog.wantsStandIn u) = true := by kernel_rfl
        exact (show Tryd.prog.wantsStandIn t = false by simpa using List.all_eq_true.1 hall t hm)⟩)
    (by kernel_rfl)
end Go.Proofs.Qxb6614690aDoor
