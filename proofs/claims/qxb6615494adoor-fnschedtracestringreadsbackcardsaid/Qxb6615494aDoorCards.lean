/-
  DERIVED. GIVEN WITH THE SEED: THE CARDS: each row of Qxb6615494aDoorRows.lean that lists a variable, with what it lists TIED to the program's text (the seventh form; the later family's looks); each row that meets fmt, with fmt's text TOLD by the authors' own Lean function (tested against real Go, not proved from fmt's source: count such statements apart). THE CARD IS WHAT COUNTS. Prove the row's statement (the work); the ties are given (Qxb6615494aDoorTie.lean); close each card by the builder's one call (the guide's Derived/Test/ToyasCard.lean, 'card_holds'). Laid BY PROGRAM, IN A SANDBOX (cutbox-door.mjs). By AI agents, Wed Nov 11 2026. No macro, syntax, notation, axiom, sorry.
-/
import Derived.Test.Qxb6615494aDoorRows
import GoSem.ClaimSeven
namespace Go.Proofs.Qxb6615494aDoor
namespace Rows

/-- THE TIED CARD OF 'zzlaws_root_b1.FnSchedTraceStringReadsBack'. -/
def fnSchedTraceStringReadsBackCard : Claim7 := { stood := { row := fnSchedTraceStringReadsBackRow, standIns := [], harness := (true, "bce5a9ea7b9be0cd6de1f6cba04f56193883d8c869bb75c1843f560b08c88d14"), looks := false }, kinds := [], alts := [], laidByText := true, laidKinds := [.data, .data, .data], laidTests := true, laidLooks := .later }
def FnSchedTraceStringReadsBackCardSaid : Prop := Claim7.holds Tryd.pinned (.plain (OpenSpec.ofChange fnSchedTraceStringReadsBackSpec)) fnSchedTraceStringReadsBackCard
end Rows
end Go.Proofs.Qxb6615494aDoor
