/-
  No cell of these rows narrows 'for every input' (looked for: loops, veiled, ifaces, maps, wideKeys, modest, calm, conditions, laid).
  DERIVED. THE GIVEN ROWS OF THIS SEAT. 6 by the template 'for every input the law returns true; each argument reads behind the call as it read before'; 0 by the template 'total and deterministic' (their statements: Qxb6000676aModsTotals.lean).
  GIVEN WITH THE SEED: the statements are not yours to turn. If you find one false, say at which input.
  Laid BY PROGRAM, IN A SANDBOX (cutbox-rows.mjs): the forced cells as the released guide's own fill.sh prints them over the translation fc5c5b246a45a8bc… (all of the seat's roots in one cut). By AI agents, Wed Nov 11 2026. No macro, syntax, notation, axiom, sorry.
-/
import Derived.Test.Qxb6000676aModsChecked
import GoSem.Claim
import GoSem.ClaimJoined
import GoSem.ClaimMapViews
import Derived.JoinedTies
import Derived.KernelRfl
namespace Go.Proofs.Qxb6000676aMods
/- THE CELL 'sum', in the pinned program and in every row, IS THE sha256 OF THE DUMP (.gsa) THAT Qxb6000676aModsProg.lean LOADS. Nothing in Lean hashes anything: it is a label: what it is worth is what the hold of that sum in a sandbox is worth. -/
noncomputable def Trym.pinned : Pinned := { name := "qxb6000676amods", sum := "fc5c5b246a45a8bc5413fd12a09b121a054e1010250050dac9c5e41915dcf713", checked := Trym.checked }
namespace Rows
def none {H : Type} : Left H := { results := [], args := [] }

/-- 'zzlaws_internal_plist_b1.FnReadUintLastEightBytesModel': WHATEVER THE INPUT: true; the input reads as it did. -/
def fnReadUintLastEightBytesModelSpec : ChangeSpec := { name := "fnReadUintLastEightBytesModel", fn := fun _ => fun
  | [d] => { results := [.lit (.bool true)], args := [d] }
  | _ => none }
def fnReadUintLastEightBytesModelRow : OpenClaim := { program := "qxb6000676amods", sum := "fc5c5b246a45a8bc5413fd12a09b121a054e1010250050dac9c5e41915dcf713", func := "example.com/quartermaster/quartermaster/zzlaws_internal_plist_b1.FnReadUintLastEightBytesModel", spec := "fnReadUintLastEightBytesModel", make := .lifted ["publicsums"], apart := false }
def FnReadUintLastEightBytesModelSaid : Prop := fnReadUintLastEightBytesModelRow.holds Trym.pinned (OpenSpec.ofChange fnReadUintLastEightBytesModelSpec)

/-- ITS FALSE NEIGHBOUR: 'it returns false'. Refute it at one input. -/
def fnReadUintLastEightBytesModelWrong : ChangeSpec := { name := "fnReadUintLastEightBytesModel", fn := fun _ => fun
  | [d] => { results := [.lit (.bool false)], args := [d] }
  | _ => none }
def FnReadUintLastEightBytesModelWrongFalsely : Prop := fnReadUintLastEightBytesModelRow.holds Trym.pinned (OpenSpec.ofChange fnReadUintLastEightBytesModelWrong)

/-- 'zzlaws_internal_plist_b1.FnReadUintRoundTripBehindAnyPrefix': WHATEVER THE INPUT: true; the input reads as it did. -/
def fnReadUintRoundTripBehindAnyPrefixSpec : ChangeSpec := { name := "fnReadUintRoundTripBehindAnyPrefix", fn := fun _ => fun
  | [d1, d2] => { results := [.lit (.bool true)], args := [d1, d2] }
  | _ => none }
def fnReadUintRoundTripBehindAnyPrefixRow : OpenClaim := { program := "qxb6000676amods", sum := "fc5c5b246a45a8bc5413fd12a09b121a054e1010250050dac9c5e41915dcf713", func := "example.com/quartermaster/quartermaster/zzlaws_internal_plist_b1.FnReadUintRoundTripBehindAnyPrefix", spec := "fnReadUintRoundTripBehindAnyPrefix", make := .lifted ["publicsums"], apart := false }
def FnReadUintRoundTripBehindAnyPrefixSaid : Prop := fnReadUintRoundTripBehindAnyPrefixRow.holds Trym.pinned (OpenSpec.ofChange fnReadUintRoundTripBehindAnyPrefixSpec)

/-- ITS FALSE NEIGHBOUR: 'it returns false'. Refute it at one input. -/
def fnReadUintRoundTripBehindAnyPrefixWrong : ChangeSpec := { name := "fnReadUintRoundTripBehindAnyPrefix", fn := fun _ => fun
  | [d1, d2] => { results := [.lit (.bool false)], args := [d1, d2] }
  | _ => none }
def FnReadUintRoundTripBehindAnyPrefixWrongFalsely : Prop := fnReadUintRoundTripBehindAnyPrefixRow.holds Trym.pinned (OpenSpec.ofChange fnReadUintRoundTripBehindAnyPrefixWrong)

/-- 'zzlaws_internal_plist_b1.FnReadUintOrderMatchesByteOrder': WHATEVER THE INPUT: true; the input reads as it did. -/
def fnReadUintOrderMatchesByteOrderSpec : ChangeSpec := { name := "fnReadUintOrderMatchesByteOrder", fn := fun _ => fun
  | [d1, d2] => { results := [.lit (.bool true)], args := [d1, d2] }
  | _ => none }
def fnReadUintOrderMatchesByteOrderRow : OpenClaim := { program := "qxb6000676amods", sum := "fc5c5b246a45a8bc5413fd12a09b121a054e1010250050dac9c5e41915dcf713", func := "example.com/quartermaster/quartermaster/zzlaws_internal_plist_b1.FnReadUintOrderMatchesByteOrder", spec := "fnReadUintOrderMatchesByteOrder", make := .lifted ["publicsums"], apart := false }
def FnReadUintOrderMatchesByteOrderSaid : Prop := fnReadUintOrderMatchesByteOrderRow.holds Trym.pinned (OpenSpec.ofChange fnReadUintOrderMatchesByteOrderSpec)

/-- ITS FALSE NEIGHBOUR: 'it returns false'. Refute it at one input. -/
def fnReadUintOrderMatchesByteOrderWrong : ChangeSpec := { name := "fnReadUintOrderMatchesByteOrder", fn := fun _ => fun
  | [d1, d2] => { results := [.lit (.bool false)], args := [d1, d2] }
  | _ => none }
def FnReadUintOrderMatchesByteOrderWrongFalsely : Prop := fnReadUintOrderMatchesByteOrderRow.holds Trym.pinned (OpenSpec.ofChange fnReadUintOrderMatchesByteOrderWrong)

/-- 'zzlaws_internal_plist_b1.FnTagEndStableUnderAppendAndCut': WHATEVER THE INPUT: true; the input reads as it did. -/
def fnTagEndStableUnderAppendAndCutSpec : ChangeSpec := { name := "fnTagEndStableUnderAppendAndCut", fn := fun _ => fun
  | [d1, d2] => { results := [.lit (.bool true)], args := [d1, d2] }
  | _ => none }
def fnTagEndStableUnderAppendAndCutRow : OpenClaim := { program := "qxb6000676amods", sum := "fc5c5b246a45a8bc5413fd12a09b121a054e1010250050dac9c5e41915dcf713", func := "example.com/quartermaster/quartermaster/zzlaws_internal_plist_b1.FnTagEndStableUnderAppendAndCut", spec := "fnTagEndStableUnderAppendAndCut", make := .lifted ["publicsums"], apart := false }
def FnTagEndStableUnderAppendAndCutSaid : Prop := fnTagEndStableUnderAppendAndCutRow.holds Trym.pinned (OpenSpec.ofChange fnTagEndStableUnderAppendAndCutSpec)

/-- ITS FALSE NEIGHBOUR: 'it returns false'. Refute it at one input. -/
def fnTagEndStableUnderAppendAndCutWrong : ChangeSpec := { name := "fnTagEndStableUnderAppendAndCut", fn := fun _ => fun
  | [d1, d2] => { results := [.lit (.bool false)], args := [d1, d2] }
  | _ => none }
def FnTagEndStableUnderAppendAndCutWrongFalsely : Prop := fnTagEndStableUnderAppendAndCutRow.holds Trym.pinned (OpenSpec.ofChange fnTagEndStableUnderAppendAndCutWrong)

/-- 'zzlaws_internal_plist_b1.FnTagEndSkipsQuotedText': WHATEVER THE INPUT: true; the input reads as it did. -/
def fnTagEndSkipsQuotedTextSpec : ChangeSpec := { name := "fnTagEndSkipsQuotedText", fn := fun _ => fun
  | [d1, d2, d3, d4, d5, d6] => { results := [.lit (.bool true)], args := [d1, d2, d3, d4, d5, d6] }
  | _ => none }
def fnTagEndSkipsQuotedTextRow : OpenClaim := { program := "qxb6000676amods", sum := "fc5c5b246a45a8bc5413fd12a09b121a054e1010250050dac9c5e41915dcf713", func := "example.com/quartermaster/quartermaster/zzlaws_internal_plist_b1.FnTagEndSkipsQuotedText", spec := "fnTagEndSkipsQuotedText", make := .lifted ["publicsums"], apart := false }
def FnTagEndSkipsQuotedTextSaid : Prop := fnTagEndSkipsQuotedTextRow.holds Trym.pinned (OpenSpec.ofChange fnTagEndSkipsQuotedTextSpec)

/-- ITS FALSE NEIGHBOUR: 'it returns false'. Refute it at one input. -/
def fnTagEndSkipsQuotedTextWrong : ChangeSpec := { name := "fnTagEndSkipsQuotedText", fn := fun _ => fun
  | [d1, d2, d3, d4, d5, d6] => { results := [.lit (.bool false)], args := [d1, d2, d3, d4, d5, d6] }
  | _ => none }
def FnTagEndSkipsQuotedTextWrongFalsely : Prop := fnTagEndSkipsQuotedTextRow.holds Trym.pinned (OpenSpec.ofChange fnTagEndSkipsQuotedTextWrong)

/-- 'zzlaws_internal_plist_b1.FnTagEndNestedAndUnclosed': WHATEVER THE INPUT: true; the input reads as it did. -/
def fnTagEndNestedAndUnclosedSpec : ChangeSpec := { name := "fnTagEndNestedAndUnclosed", fn := fun _ => fun
  | [d1, d2, d3, d4, d5] => { results := [.lit (.bool true)], args := [d1, d2, d3, d4, d5] }
  | _ => none }
def fnTagEndNestedAndUnclosedRow : OpenClaim := { program := "qxb6000676amods", sum := "fc5c5b246a45a8bc5413fd12a09b121a054e1010250050dac9c5e41915dcf713", func := "example.com/quartermaster/quartermaster/zzlaws_internal_plist_b1.FnTagEndNestedAndUnclosed", spec := "fnTagEndNestedAndUnclosed", make := .lifted ["publicsums"], apart := false }
def FnTagEndNestedAndUnclosedSaid : Prop := fnTagEndNestedAndUnclosedRow.holds Trym.pinned (OpenSpec.ofChange fnTagEndNestedAndUnclosedSpec)

/-- ITS FALSE NEIGHBOUR: 'it returns false'. Refute it at one input. -/
def fnTagEndNestedAndUnclosedWrong : ChangeSpec := { name := "fnTagEndNestedAndUnclosed", fn := fun _ => fun
  | [d1, d2, d3, d4, d5] => { results := [.lit (.bool false)], args := [d1, d2, d3, d4, d5] }
  | _ => none }
def FnTagEndNestedAndUnclosedWrongFalsely : Prop := fnTagEndNestedAndUnclosedRow.holds Trym.pinned (OpenSpec.ofChange fnTagEndNestedAndUnclosedWrong)

end Rows
end Go.Proofs.Qxb6000676aMods
