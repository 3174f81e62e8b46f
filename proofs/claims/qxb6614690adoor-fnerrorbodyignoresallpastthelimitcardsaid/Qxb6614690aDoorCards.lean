/-
  DERIVED. GIVEN WITH THE SEED: THE CARDS: each row of Qxb6614690aDoorRows.lean that lists a variable, with what it lists TIED to the program's text (the seventh form; the later family's looks); each row that meets fmt, with fmt's text TOLD by the authors' own Lean function (tested against real Go, not proved from fmt's source: count such statements apart). THE CARD IS WHAT COUNTS. Prove the row's statement (the work); the ties are given (Qxb6614690aDoorTie.lean); close each card by the builder's one call (the guide's Derived/Test/ToyasCard.lean, 'card_holds'). Laid BY PROGRAM, IN A SANDBOX (cutbox-door.mjs). By AI agents, Wed Nov 11 2026. No macro, syntax, notation, axiom, sorry.
-/
import Derived.Test.Qxb6614690aDoorRows
import GoSem.ClaimSeven
namespace Go.Proofs.Qxb6614690aDoor
namespace Rows

/-- THE TIED CARD OF 'zzlaws_root_b1.FnErrorBodyDropsOneMarkAndKeepsTheRest'. -/
def fnErrorBodyDropsOneMarkAndKeepsTheRestCard : Claim7 := { stood := { row := fnErrorBodyDropsOneMarkAndKeepsTheRestRow, standIns := [], harness := (true, "f90f5619a7ca7bb5fc0b4810875c560455f10d33b0a501bac0fd0dd6b53a5629"), looks := true }, kinds := [], alts := [], laidByText := true, laidKinds := [.called], laidTests := true, laidLooks := .later }
def FnErrorBodyDropsOneMarkAndKeepsTheRestCardSaid : Prop := Claim7.holds Tryd.pinned (.plain (OpenSpec.ofChange fnErrorBodyDropsOneMarkAndKeepsTheRestSpec)) fnErrorBodyDropsOneMarkAndKeepsTheRestCard

/-- THE TIED CARD OF 'zzlaws_root_b1.FnErrorBodyIgnoresAllPastTheLimit'. -/
def fnErrorBodyIgnoresAllPastTheLimitCard : Claim7 := { stood := { row := fnErrorBodyIgnoresAllPastTheLimitRow, standIns := [], harness := (true, "f90f5619a7ca7bb5fc0b4810875c560455f10d33b0a501bac0fd0dd6b53a5629"), looks := true }, kinds := [], alts := [], laidByText := true, laidKinds := [.called], laidTests := true, laidLooks := .later }
def FnErrorBodyIgnoresAllPastTheLimitCardSaid : Prop := Claim7.holds Tryd.pinned (.plain (OpenSpec.ofChange fnErrorBodyIgnoresAllPastTheLimitSpec)) fnErrorBodyIgnoresAllPastTheLimitCard
end Rows
end Go.Proofs.Qxb6614690aDoor
