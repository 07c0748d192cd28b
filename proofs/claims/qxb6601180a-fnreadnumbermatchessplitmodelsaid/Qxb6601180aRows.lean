/-
  No cell of these rows narrows 'for every input' (looked for: loops, veiled, ifaces, maps, wideKeys, modest, calm, conditions, laid).
  DERIVED. THE GIVEN ROWS OF THIS SEAT. 3 by the template 'for every input the law returns true; each argument reads behind the call as it read before'; 0 by the template 'total and deterministic' (their statements: Qxb6601180aTotals.lean).
  GIVEN WITH THE SEED: the statements are not yours to turn. If you find one false, say at which input.
  Laid BY PROGRAM, IN A SANDBOX (cutbox-rows.mjs): the forced cells as the released guide's own fill.sh prints them over the translation 85ccb263265cfa85… (all of the seat's roots in one cut). By AI agents, Wed Nov 11 2026. No macro, syntax, notation, axiom, sorry.
-/
import Derived.Test.Qxb6601180aChecked
import GoSem.Claim
import GoSem.ClaimJoined
import GoSem.ClaimMapViews
import Derived.JoinedTies
import Derived.KernelRfl
namespace Go.Proofs.Qxb6601180a
/- THE CELL 'sum', in the pinned program and in every row, IS THE sha256 OF THE DUMP (.gsa) THAT Qxb6601180aProg.lean LOADS. Nothing in Lean hashes anything: it is a label: what it is worth is what the hold of that sum in a sandbox is worth. -/
noncomputable def Try.pinned : Pinned := { name := "qxb6601180a", sum := "85ccb263265cfa8577c707f1968604683374c2e7493d223a3666a8c35cdac1af", checked := Try.checked }
namespace Rows
def none {H : Type} : Left H := { results := [], args := [] }

/-- 'zzlaws_exact_b1.FnReadNumberMatchesSplitModel': WHATEVER THE INPUT: true; the input reads as it did. -/
def fnReadNumberMatchesSplitModelSpec : ChangeSpec := { name := "fnReadNumberMatchesSplitModel", fn := fun _ => fun
  | [d] => { results := [.lit (.bool true)], args := [d] }
  | _ => none }
def fnReadNumberMatchesSplitModelRow : OpenClaim := { program := "qxb6601180a", sum := "85ccb263265cfa8577c707f1968604683374c2e7493d223a3666a8c35cdac1af", func := "example.com/vestledger/vestledger/zzlaws_exact_b1.FnReadNumberMatchesSplitModel", spec := "fnReadNumberMatchesSplitModel", unfollowed := true, recurses := true, apart := false }
def FnReadNumberMatchesSplitModelSaid : Prop := fnReadNumberMatchesSplitModelRow.holds Try.pinned (OpenSpec.ofChange fnReadNumberMatchesSplitModelSpec)

/-- ITS FALSE NEIGHBOUR: 'it returns false'. Refute it at one input. -/
def fnReadNumberMatchesSplitModelWrong : ChangeSpec := { name := "fnReadNumberMatchesSplitModel", fn := fun _ => fun
  | [d] => { results := [.lit (.bool false)], args := [d] }
  | _ => none }
def FnReadNumberMatchesSplitModelWrongFalsely : Prop := fnReadNumberMatchesSplitModelRow.holds Try.pinned (OpenSpec.ofChange fnReadNumberMatchesSplitModelWrong)

/-- 'zzlaws_exact_b1.FnReadNumberPrintsBackAndRereads': WHATEVER THE INPUT: true; the input reads as it did. -/
def fnReadNumberPrintsBackAndRereadsSpec : ChangeSpec := { name := "fnReadNumberPrintsBackAndRereads", fn := fun _ => fun
  | [d] => { results := [.lit (.bool true)], args := [d] }
  | _ => none }
def fnReadNumberPrintsBackAndRereadsRow : OpenClaim := { program := "qxb6601180a", sum := "85ccb263265cfa8577c707f1968604683374c2e7493d223a3666a8c35cdac1af", func := "example.com/vestledger/vestledger/zzlaws_exact_b1.FnReadNumberPrintsBackAndRereads", spec := "fnReadNumberPrintsBackAndRereads", unfollowed := true, recurses := true, apart := false }
def FnReadNumberPrintsBackAndRereadsSaid : Prop := fnReadNumberPrintsBackAndRereadsRow.holds Try.pinned (OpenSpec.ofChange fnReadNumberPrintsBackAndRereadsSpec)

/-- ITS FALSE NEIGHBOUR: 'it returns false'. Refute it at one input. -/
def fnReadNumberPrintsBackAndRereadsWrong : ChangeSpec := { name := "fnReadNumberPrintsBackAndRereads", fn := fun _ => fun
  | [d] => { results := [.lit (.bool false)], args := [d] }
  | _ => none }
def FnReadNumberPrintsBackAndRereadsWrongFalsely : Prop := fnReadNumberPrintsBackAndRereadsRow.holds Try.pinned (OpenSpec.ofChange fnReadNumberPrintsBackAndRereadsWrong)

/-- 'zzlaws_exact_b1.FnReadNumberMinusOnlySetsNegative': WHATEVER THE INPUT: true; the input reads as it did. -/
def fnReadNumberMinusOnlySetsNegativeSpec : ChangeSpec := { name := "fnReadNumberMinusOnlySetsNegative", fn := fun _ => fun
  | [d] => { results := [.lit (.bool true)], args := [d] }
  | _ => none }
def fnReadNumberMinusOnlySetsNegativeRow : OpenClaim := { program := "qxb6601180a", sum := "85ccb263265cfa8577c707f1968604683374c2e7493d223a3666a8c35cdac1af", func := "example.com/vestledger/vestledger/zzlaws_exact_b1.FnReadNumberMinusOnlySetsNegative", spec := "fnReadNumberMinusOnlySetsNegative", unfollowed := true, recurses := true, apart := false }
def FnReadNumberMinusOnlySetsNegativeSaid : Prop := fnReadNumberMinusOnlySetsNegativeRow.holds Try.pinned (OpenSpec.ofChange fnReadNumberMinusOnlySetsNegativeSpec)

/-- ITS FALSE NEIGHBOUR: 'it returns false'. Refute it at one input. -/
def fnReadNumberMinusOnlySetsNegativeWrong : ChangeSpec := { name := "fnReadNumberMinusOnlySetsNegative", fn := fun _ => fun
  | [d] => { results := [.lit (.bool false)], args := [d] }
  | _ => none }
def FnReadNumberMinusOnlySetsNegativeWrongFalsely : Prop := fnReadNumberMinusOnlySetsNegativeRow.holds Try.pinned (OpenSpec.ofChange fnReadNumberMinusOnlySetsNegativeWrong)

end Rows
end Go.Proofs.Qxb6601180a
