/-
  No cell of these rows narrows 'for every input' (looked for: loops, veiled, ifaces, maps, wideKeys, modest, calm, conditions, laid).
  DERIVED. THE GIVEN ROWS OF THIS SEAT. 7 by the template 'for every input the law returns true; each argument reads behind the call as it read before'; 0 by the template 'total and deterministic' (their statements: Qxb6000416aTotals.lean).
  GIVEN WITH THE SEED: the statements are not yours to turn. If you find one false, say at which input.
  Laid BY PROGRAM, IN A SANDBOX (cutbox-rows.mjs): the forced cells as the released guide's own fill.sh prints them over the translation 9b97cc158a06baab… (all of the seat's roots in one cut). By AI agents, Wed Nov 11 2026. No macro, syntax, notation, axiom, sorry.
-/
import Derived.Test.Qxb6000416aChecked
import GoSem.Claim
import GoSem.ClaimJoined
import GoSem.ClaimMapViews
import Derived.JoinedTies
import Derived.KernelRfl
namespace Go.Proofs.Qxb6000416a
/- THE CELL 'sum', in the pinned program and in every row, IS THE sha256 OF THE DUMP (.gsa) THAT Qxb6000416aProg.lean LOADS. Nothing in Lean hashes anything: it is a label: what it is worth is what the hold of that sum in a sandbox is worth. -/
noncomputable def Try.pinned : Pinned := { name := "qxb6000416a", sum := "9b97cc158a06baabfdaafd6399e5284aacb6a3b6b8cf0c6cc117a48458a08472", checked := Try.checked }
namespace Rows
def none {H : Type} : Left H := { results := [], args := [] }

/-- 'zzlaws_root_b1.FnSplitNumberAcceptsExactlyJSONNumbers': WHATEVER THE INPUT: true; the input reads as it did. -/
def fnSplitNumberAcceptsExactlyJSONNumbersSpec : ChangeSpec := { name := "fnSplitNumberAcceptsExactlyJSONNumbers", fn := fun _ => fun
  | [d] => { results := [.lit (.bool true)], args := [d] }
  | _ => none }
def fnSplitNumberAcceptsExactlyJSONNumbersRow : OpenClaim := { program := "qxb6000416a", sum := "9b97cc158a06baabfdaafd6399e5284aacb6a3b6b8cf0c6cc117a48458a08472", func := "example.com/tollbook/tollbook/zzlaws_root_b1.FnSplitNumberAcceptsExactlyJSONNumbers", spec := "fnSplitNumberAcceptsExactlyJSONNumbers", apart := false }
def FnSplitNumberAcceptsExactlyJSONNumbersSaid : Prop := fnSplitNumberAcceptsExactlyJSONNumbersRow.holds Try.pinned (OpenSpec.ofChange fnSplitNumberAcceptsExactlyJSONNumbersSpec)

/-- ITS FALSE NEIGHBOUR: 'it returns false'. Refute it at one input. -/
def fnSplitNumberAcceptsExactlyJSONNumbersWrong : ChangeSpec := { name := "fnSplitNumberAcceptsExactlyJSONNumbers", fn := fun _ => fun
  | [d] => { results := [.lit (.bool false)], args := [d] }
  | _ => none }
def FnSplitNumberAcceptsExactlyJSONNumbersWrongFalsely : Prop := fnSplitNumberAcceptsExactlyJSONNumbersRow.holds Try.pinned (OpenSpec.ofChange fnSplitNumberAcceptsExactlyJSONNumbersWrong)

/-- 'zzlaws_root_b1.FnSplitNumberPartsReassemble': WHATEVER THE INPUT: true; the input reads as it did. -/
def fnSplitNumberPartsReassembleSpec : ChangeSpec := { name := "fnSplitNumberPartsReassemble", fn := fun _ => fun
  | [d] => { results := [.lit (.bool true)], args := [d] }
  | _ => none }
def fnSplitNumberPartsReassembleRow : OpenClaim := { program := "qxb6000416a", sum := "9b97cc158a06baabfdaafd6399e5284aacb6a3b6b8cf0c6cc117a48458a08472", func := "example.com/tollbook/tollbook/zzlaws_root_b1.FnSplitNumberPartsReassemble", spec := "fnSplitNumberPartsReassemble", apart := false }
def FnSplitNumberPartsReassembleSaid : Prop := fnSplitNumberPartsReassembleRow.holds Try.pinned (OpenSpec.ofChange fnSplitNumberPartsReassembleSpec)

/-- ITS FALSE NEIGHBOUR: 'it returns false'. Refute it at one input. -/
def fnSplitNumberPartsReassembleWrong : ChangeSpec := { name := "fnSplitNumberPartsReassemble", fn := fun _ => fun
  | [d] => { results := [.lit (.bool false)], args := [d] }
  | _ => none }
def FnSplitNumberPartsReassembleWrongFalsely : Prop := fnSplitNumberPartsReassembleRow.holds Try.pinned (OpenSpec.ofChange fnSplitNumberPartsReassembleWrong)

/-- 'zzlaws_root_b1.FnSplitNumberRecoversWrittenParts': WHATEVER THE INPUT: true; the input reads as it did. -/
def fnSplitNumberRecoversWrittenPartsSpec : ChangeSpec := { name := "fnSplitNumberRecoversWrittenParts", fn := fun _ => fun
  | [d1, d2, d3, d4, d5, d6, d7] => { results := [.lit (.bool true)], args := [d1, d2, d3, d4, d5, d6, d7] }
  | _ => none }
def fnSplitNumberRecoversWrittenPartsRow : OpenClaim := { program := "qxb6000416a", sum := "9b97cc158a06baabfdaafd6399e5284aacb6a3b6b8cf0c6cc117a48458a08472", func := "example.com/tollbook/tollbook/zzlaws_root_b1.FnSplitNumberRecoversWrittenParts", spec := "fnSplitNumberRecoversWrittenParts", apart := false }
def FnSplitNumberRecoversWrittenPartsSaid : Prop := fnSplitNumberRecoversWrittenPartsRow.holds Try.pinned (OpenSpec.ofChange fnSplitNumberRecoversWrittenPartsSpec)

/-- ITS FALSE NEIGHBOUR: 'it returns false'. Refute it at one input. -/
def fnSplitNumberRecoversWrittenPartsWrong : ChangeSpec := { name := "fnSplitNumberRecoversWrittenParts", fn := fun _ => fun
  | [d1, d2, d3, d4, d5, d6, d7] => { results := [.lit (.bool false)], args := [d1, d2, d3, d4, d5, d6, d7] }
  | _ => none }
def FnSplitNumberRecoversWrittenPartsWrongFalsely : Prop := fnSplitNumberRecoversWrittenPartsRow.holds Try.pinned (OpenSpec.ofChange fnSplitNumberRecoversWrittenPartsWrong)

/-- 'zzlaws_root_b1.FnHighestMatchesLinearScan': WHATEVER THE INPUT: true; the input reads as it did. -/
def fnHighestMatchesLinearScanSpec : ChangeSpec := { name := "fnHighestMatchesLinearScan", fn := fun _ => fun
  | [d1, d2, d3, d4] => { results := [.lit (.bool true)], args := [d1, d2, d3, d4] }
  | _ => none }
def fnHighestMatchesLinearScanRow : OpenClaim := { program := "qxb6000416a", sum := "9b97cc158a06baabfdaafd6399e5284aacb6a3b6b8cf0c6cc117a48458a08472", func := "example.com/tollbook/tollbook/zzlaws_root_b1.FnHighestMatchesLinearScan", spec := "fnHighestMatchesLinearScan", apart := false }
def FnHighestMatchesLinearScanSaid : Prop := fnHighestMatchesLinearScanRow.holds Try.pinned (OpenSpec.ofChange fnHighestMatchesLinearScanSpec)

/-- ITS FALSE NEIGHBOUR: 'it returns false'. Refute it at one input. -/
def fnHighestMatchesLinearScanWrong : ChangeSpec := { name := "fnHighestMatchesLinearScan", fn := fun _ => fun
  | [d1, d2, d3, d4] => { results := [.lit (.bool false)], args := [d1, d2, d3, d4] }
  | _ => none }
def FnHighestMatchesLinearScanWrongFalsely : Prop := fnHighestMatchesLinearScanRow.holds Try.pinned (OpenSpec.ofChange fnHighestMatchesLinearScanWrong)

/-- 'zzlaws_root_b1.FnHighestSplitsAtAnyPoint': WHATEVER THE INPUT: true; the input reads as it did. -/
def fnHighestSplitsAtAnyPointSpec : ChangeSpec := { name := "fnHighestSplitsAtAnyPoint", fn := fun _ => fun
  | [d1, d2, d3, d4, d5] => { results := [.lit (.bool true)], args := [d1, d2, d3, d4, d5] }
  | _ => none }
def fnHighestSplitsAtAnyPointRow : OpenClaim := { program := "qxb6000416a", sum := "9b97cc158a06baabfdaafd6399e5284aacb6a3b6b8cf0c6cc117a48458a08472", func := "example.com/tollbook/tollbook/zzlaws_root_b1.FnHighestSplitsAtAnyPoint", spec := "fnHighestSplitsAtAnyPoint", apart := false }
def FnHighestSplitsAtAnyPointSaid : Prop := fnHighestSplitsAtAnyPointRow.holds Try.pinned (OpenSpec.ofChange fnHighestSplitsAtAnyPointSpec)

/-- ITS FALSE NEIGHBOUR: 'it returns false'. Refute it at one input. -/
def fnHighestSplitsAtAnyPointWrong : ChangeSpec := { name := "fnHighestSplitsAtAnyPoint", fn := fun _ => fun
  | [d1, d2, d3, d4, d5] => { results := [.lit (.bool false)], args := [d1, d2, d3, d4, d5] }
  | _ => none }
def FnHighestSplitsAtAnyPointWrongFalsely : Prop := fnHighestSplitsAtAnyPointRow.holds Try.pinned (OpenSpec.ofChange fnHighestSplitsAtAnyPointWrong)

/-- 'zzlaws_root_b1.FnNextUnderMatchesLinearScan': WHATEVER THE INPUT: true; the input reads as it did. -/
def fnNextUnderMatchesLinearScanSpec : ChangeSpec := { name := "fnNextUnderMatchesLinearScan", fn := fun _ => fun
  | [d1, d2, d3, d4, d5] => { results := [.lit (.bool true)], args := [d1, d2, d3, d4, d5] }
  | _ => none }
def fnNextUnderMatchesLinearScanRow : OpenClaim := { program := "qxb6000416a", sum := "9b97cc158a06baabfdaafd6399e5284aacb6a3b6b8cf0c6cc117a48458a08472", func := "example.com/tollbook/tollbook/zzlaws_root_b1.FnNextUnderMatchesLinearScan", spec := "fnNextUnderMatchesLinearScan", recurses := true, apart := false }
def FnNextUnderMatchesLinearScanSaid : Prop := fnNextUnderMatchesLinearScanRow.holds Try.pinned (OpenSpec.ofChange fnNextUnderMatchesLinearScanSpec)

/-- ITS FALSE NEIGHBOUR: 'it returns false'. Refute it at one input. -/
def fnNextUnderMatchesLinearScanWrong : ChangeSpec := { name := "fnNextUnderMatchesLinearScan", fn := fun _ => fun
  | [d1, d2, d3, d4, d5] => { results := [.lit (.bool false)], args := [d1, d2, d3, d4, d5] }
  | _ => none }
def FnNextUnderMatchesLinearScanWrongFalsely : Prop := fnNextUnderMatchesLinearScanRow.holds Try.pinned (OpenSpec.ofChange fnNextUnderMatchesLinearScanWrong)

/-- 'zzlaws_root_b1.FnNextUnderAgreesWithHighest': WHATEVER THE INPUT: true; the input reads as it did. -/
def fnNextUnderAgreesWithHighestSpec : ChangeSpec := { name := "fnNextUnderAgreesWithHighest", fn := fun _ => fun
  | [d1, d2, d3, d4, d5] => { results := [.lit (.bool true)], args := [d1, d2, d3, d4, d5] }
  | _ => none }
def fnNextUnderAgreesWithHighestRow : OpenClaim := { program := "qxb6000416a", sum := "9b97cc158a06baabfdaafd6399e5284aacb6a3b6b8cf0c6cc117a48458a08472", func := "example.com/tollbook/tollbook/zzlaws_root_b1.FnNextUnderAgreesWithHighest", spec := "fnNextUnderAgreesWithHighest", recurses := true, apart := false }
def FnNextUnderAgreesWithHighestSaid : Prop := fnNextUnderAgreesWithHighestRow.holds Try.pinned (OpenSpec.ofChange fnNextUnderAgreesWithHighestSpec)

/-- ITS FALSE NEIGHBOUR: 'it returns false'. Refute it at one input. -/
def fnNextUnderAgreesWithHighestWrong : ChangeSpec := { name := "fnNextUnderAgreesWithHighest", fn := fun _ => fun
  | [d1, d2, d3, d4, d5] => { results := [.lit (.bool false)], args := [d1, d2, d3, d4, d5] }
  | _ => none }
def FnNextUnderAgreesWithHighestWrongFalsely : Prop := fnNextUnderAgreesWithHighestRow.holds Try.pinned (OpenSpec.ofChange fnNextUnderAgreesWithHighestWrong)

end Rows
end Go.Proofs.Qxb6000416a
