/-
  NARROWER THAN 'FOR EVERY INPUT', by the rows' own cells (each row's printed sentence says how): FnErrorBodyDropsOneMarkAndKeepsTheRest: laid · FnErrorBodyIgnoresAllPastTheLimit: laid.
  DERIVED. THE GIVEN ROWS OF THIS SEAT. 2 by the template 'for every input the law returns true; each argument reads behind the call as it read before'; 0 by the template 'total and deterministic' (their statements: Qxb6614690aDoorTotals.lean).
  GIVEN WITH THE SEED: the statements are not yours to turn. If you find one false, say at which input.
  Laid BY PROGRAM, IN A SANDBOX (cutbox-rows.mjs): the forced cells as the released guide's own fill.sh prints them over the translation cfaedb364eaa4af4… (all of the seat's roots in one cut). By AI agents, Wed Nov 11 2026. No macro, syntax, notation, axiom, sorry.
-/
import Derived.Test.Qxb6614690aDoorChecked
import GoSem.Claim
import GoSem.ClaimJoined
import GoSem.ClaimMapViews
import Derived.JoinedTies
import Derived.KernelRfl
namespace Go.Proofs.Qxb6614690aDoor
/- THE CELL 'sum', in the pinned program and in every row, IS THE sha256 OF THE DUMP (.gsa) THAT Qxb6614690aDoorProg.lean LOADS. Nothing in Lean hashes anything: it is a label: what it is worth is what the hold of that sum in a sandbox is worth. -/
noncomputable def Tryd.pinned : Pinned := { name := "qxb6614690adoor", sum := "cfaedb364eaa4af4db574e89e724dc1de05755f2c2f6d4c274b7adba0a383f30", checked := Tryd.checked }
namespace Rows
def none {H : Type} : Left H := { results := [], args := [] }

/- WHAT THE LISTED PACKAGE-LEVEL VARIABLES READ AS WHEN THE CALL BEGINS. Each datum BY PROGRAM (the guide's laid-datum.mjs) off the statement by which the dump's own 'gosem.cut.vars' lays the variable. In a bare row this is a premise. The card (Qxb6614690aDoorCards.lean) ties it to the program's text. -/
def laid_io_EOF {H : Type} : DataW H := .iface "*errors.errorString" (.ptr (.agg [.lit (.string [69, 79, 70])]))

/-- 'zzlaws_root_b1.FnErrorBodyDropsOneMarkAndKeepsTheRest': WHATEVER THE INPUT: true; the input reads as it did. -/
def fnErrorBodyDropsOneMarkAndKeepsTheRestSpec : ChangeSpec := { name := "fnErrorBodyDropsOneMarkAndKeepsTheRest", fn := fun _ => fun
  | [d] => { results := [.lit (.bool true)], args := [d] }
  | _ => none }
def fnErrorBodyDropsOneMarkAndKeepsTheRestRow : OpenClaim := { program := "qxb6614690adoor", sum := "cfaedb364eaa4af4db574e89e724dc1de05755f2c2f6d4c274b7adba0a383f30", func := "example.com/sturdy-completions/sturdy-completions/zzlaws_root_b1.FnErrorBodyDropsOneMarkAndKeepsTheRest", spec := "fnErrorBodyDropsOneMarkAndKeepsTheRest", unfollowed := true, recurses := true, named := ["io.EOF"], apart := false, laid := [("io.EOF", laid_io_EOF)] }
def FnErrorBodyDropsOneMarkAndKeepsTheRestSaid : Prop := fnErrorBodyDropsOneMarkAndKeepsTheRestRow.holds Tryd.pinned (OpenSpec.ofChange fnErrorBodyDropsOneMarkAndKeepsTheRestSpec)

/-- ITS FALSE NEIGHBOUR: 'it returns false'. Refute it at one input. -/
def fnErrorBodyDropsOneMarkAndKeepsTheRestWrong : ChangeSpec := { name := "fnErrorBodyDropsOneMarkAndKeepsTheRest", fn := fun _ => fun
  | [d] => { results := [.lit (.bool false)], args := [d] }
  | _ => none }
def FnErrorBodyDropsOneMarkAndKeepsTheRestWrongFalsely : Prop := fnErrorBodyDropsOneMarkAndKeepsTheRestRow.holds Tryd.pinned (OpenSpec.ofChange fnErrorBodyDropsOneMarkAndKeepsTheRestWrong)

/-- 'zzlaws_root_b1.FnErrorBodyIgnoresAllPastTheLimit': WHATEVER THE INPUT: true; the input reads as it did. -/
def fnErrorBodyIgnoresAllPastTheLimitSpec : ChangeSpec := { name := "fnErrorBodyIgnoresAllPastTheLimit", fn := fun _ => fun
  | [d1, d2] => { results := [.lit (.bool true)], args := [d1, d2] }
  | _ => none }
def fnErrorBodyIgnoresAllPastTheLimitRow : OpenClaim := { program := "qxb6614690adoor", sum := "cfaedb364eaa4af4db574e89e724dc1de05755f2c2f6d4c274b7adba0a383f30", func := "example.com/sturdy-completions/sturdy-completions/zzlaws_root_b1.FnErrorBodyIgnoresAllPastTheLimit", spec := "fnErrorBodyIgnoresAllPastTheLimit", unfollowed := true, recurses := true, named := ["io.EOF"], apart := false, laid := [("io.EOF", laid_io_EOF)] }
def FnErrorBodyIgnoresAllPastTheLimitSaid : Prop := fnErrorBodyIgnoresAllPastTheLimitRow.holds Tryd.pinned (OpenSpec.ofChange fnErrorBodyIgnoresAllPastTheLimitSpec)

/-- ITS FALSE NEIGHBOUR: 'it returns false'. Refute it at one input. -/
def fnErrorBodyIgnoresAllPastTheLimitWrong : ChangeSpec := { name := "fnErrorBodyIgnoresAllPastTheLimit", fn := fun _ => fun
  | [d1, d2] => { results := [.lit (.bool false)], args := [d1, d2] }
  | _ => none }
def FnErrorBodyIgnoresAllPastTheLimitWrongFalsely : Prop := fnErrorBodyIgnoresAllPastTheLimitRow.holds Tryd.pinned (OpenSpec.ofChange fnErrorBodyIgnoresAllPastTheLimitWrong)

end Rows
end Go.Proofs.Qxb6614690aDoor
