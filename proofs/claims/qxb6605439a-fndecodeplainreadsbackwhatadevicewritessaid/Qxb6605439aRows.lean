/-
  No cell of these rows narrows 'for every input' (looked for: loops, veiled, ifaces, maps, wideKeys, modest, calm, conditions, laid).
  DERIVED. THE GIVEN ROWS OF THIS SEAT. 4 by the template 'for every input the law returns true; each argument reads behind the call as it read before'; 0 by the template 'total and deterministic' (their statements: Qxb6605439aTotals.lean).
  GIVEN WITH THE SEED: the statements are not yours to turn. If you find one false, say at which input.
  Laid BY PROGRAM, IN A SANDBOX (cutbox-rows.mjs): the forced cells as the released guide's own fill.sh prints them over the translation 414e97eaed363a69… (all of the seat's roots in one cut). By AI agents, Wed Nov 11 2026. No macro, syntax, notation, axiom, sorry.
-/
import Derived.Test.Qxb6605439aChecked
import GoSem.Claim
import GoSem.ClaimJoined
import GoSem.ClaimMapViews
import Derived.JoinedTies
import Derived.KernelRfl
namespace Go.Proofs.Qxb6605439a
/- THE CELL 'sum', in the pinned program and in every row, IS THE sha256 OF THE DUMP (.gsa) THAT Qxb6605439aProg.lean LOADS. Nothing in Lean hashes anything: it is a label: what it is worth is what the hold of that sum in a sandbox is worth. -/
noncomputable def Try.pinned : Pinned := { name := "qxb6605439a", sum := "414e97eaed363a69925bc4c2143dd6acbf0ed90f62a20c4c52aeb0e02caa4d43", checked := Try.checked }
namespace Rows
def none {H : Type} : Left H := { results := [], args := [] }

/-- 'zzlaws_announcement_b1.FnDecodePlainMatchesLexThenParse': WHATEVER THE INPUT: true; the input reads as it did. -/
def fnDecodePlainMatchesLexThenParseSpec : ChangeSpec := { name := "fnDecodePlainMatchesLexThenParse", fn := fun _ => fun
  | [d] => { results := [.lit (.bool true)], args := [d] }
  | _ => none }
def fnDecodePlainMatchesLexThenParseRow : OpenClaim := { program := "qxb6605439a", sum := "414e97eaed363a69925bc4c2143dd6acbf0ed90f62a20c4c52aeb0e02caa4d43", func := "example.com/hailcast/hailcast/zzlaws_announcement_b1.FnDecodePlainMatchesLexThenParse", spec := "fnDecodePlainMatchesLexThenParse", inPlace := ["internal/bytealg.CountString", "internal/bytealg.IndexByteString", "internal/bytealg.IndexString"], named := ["internal/bytealg.MaxLen"], apart := false }
def FnDecodePlainMatchesLexThenParseSaid : Prop := fnDecodePlainMatchesLexThenParseRow.holds Try.pinned (OpenSpec.ofChange fnDecodePlainMatchesLexThenParseSpec)

/-- ITS FALSE NEIGHBOUR: 'it returns false'. Refute it at one input. -/
def fnDecodePlainMatchesLexThenParseWrong : ChangeSpec := { name := "fnDecodePlainMatchesLexThenParse", fn := fun _ => fun
  | [d] => { results := [.lit (.bool false)], args := [d] }
  | _ => none }
def FnDecodePlainMatchesLexThenParseWrongFalsely : Prop := fnDecodePlainMatchesLexThenParseRow.holds Try.pinned (OpenSpec.ofChange fnDecodePlainMatchesLexThenParseWrong)

/-- 'zzlaws_announcement_b1.FnDecodePlainReadsBackWhatADeviceWrites': WHATEVER THE INPUT: true; the input reads as it did. -/
def fnDecodePlainReadsBackWhatADeviceWritesSpec : ChangeSpec := { name := "fnDecodePlainReadsBackWhatADeviceWrites", fn := fun _ => fun
  | [d1, d2] => { results := [.lit (.bool true)], args := [d1, d2] }
  | _ => none }
def fnDecodePlainReadsBackWhatADeviceWritesRow : OpenClaim := { program := "qxb6605439a", sum := "414e97eaed363a69925bc4c2143dd6acbf0ed90f62a20c4c52aeb0e02caa4d43", func := "example.com/hailcast/hailcast/zzlaws_announcement_b1.FnDecodePlainReadsBackWhatADeviceWrites", spec := "fnDecodePlainReadsBackWhatADeviceWrites", inPlace := ["internal/bytealg.CountString", "internal/bytealg.IndexByteString", "internal/bytealg.IndexString"], named := ["internal/bytealg.MaxLen"], apart := false }
def FnDecodePlainReadsBackWhatADeviceWritesSaid : Prop := fnDecodePlainReadsBackWhatADeviceWritesRow.holds Try.pinned (OpenSpec.ofChange fnDecodePlainReadsBackWhatADeviceWritesSpec)

/-- ITS FALSE NEIGHBOUR: 'it returns false'. Refute it at one input. -/
def fnDecodePlainReadsBackWhatADeviceWritesWrong : ChangeSpec := { name := "fnDecodePlainReadsBackWhatADeviceWrites", fn := fun _ => fun
  | [d1, d2] => { results := [.lit (.bool false)], args := [d1, d2] }
  | _ => none }
def FnDecodePlainReadsBackWhatADeviceWritesWrongFalsely : Prop := fnDecodePlainReadsBackWhatADeviceWritesRow.holds Try.pinned (OpenSpec.ofChange fnDecodePlainReadsBackWhatADeviceWritesWrong)

/-- 'zzlaws_announcement_b1.FnPlainStringReadsOneQuotedPlainString': WHATEVER THE INPUT: true; the input reads as it did. -/
def fnPlainStringReadsOneQuotedPlainStringSpec : ChangeSpec := { name := "fnPlainStringReadsOneQuotedPlainString", fn := fun _ => fun
  | [d1, d2] => { results := [.lit (.bool true)], args := [d1, d2] }
  | _ => none }
def fnPlainStringReadsOneQuotedPlainStringRow : OpenClaim := { program := "qxb6605439a", sum := "414e97eaed363a69925bc4c2143dd6acbf0ed90f62a20c4c52aeb0e02caa4d43", func := "example.com/hailcast/hailcast/zzlaws_announcement_b1.FnPlainStringReadsOneQuotedPlainString", spec := "fnPlainStringReadsOneQuotedPlainString", apart := false }
def FnPlainStringReadsOneQuotedPlainStringSaid : Prop := fnPlainStringReadsOneQuotedPlainStringRow.holds Try.pinned (OpenSpec.ofChange fnPlainStringReadsOneQuotedPlainStringSpec)

/-- ITS FALSE NEIGHBOUR: 'it returns false'. Refute it at one input. -/
def fnPlainStringReadsOneQuotedPlainStringWrong : ChangeSpec := { name := "fnPlainStringReadsOneQuotedPlainString", fn := fun _ => fun
  | [d1, d2] => { results := [.lit (.bool false)], args := [d1, d2] }
  | _ => none }
def FnPlainStringReadsOneQuotedPlainStringWrongFalsely : Prop := fnPlainStringReadsOneQuotedPlainStringRow.holds Try.pinned (OpenSpec.ofChange fnPlainStringReadsOneQuotedPlainStringWrong)

/-- 'zzlaws_announcement_b1.FnSkipSpaceEndsTheWhitespaceRun': WHATEVER THE INPUT: true; the input reads as it did. -/
def fnSkipSpaceEndsTheWhitespaceRunSpec : ChangeSpec := { name := "fnSkipSpaceEndsTheWhitespaceRun", fn := fun _ => fun
  | [d1, d2] => { results := [.lit (.bool true)], args := [d1, d2] }
  | _ => none }
def fnSkipSpaceEndsTheWhitespaceRunRow : OpenClaim := { program := "qxb6605439a", sum := "414e97eaed363a69925bc4c2143dd6acbf0ed90f62a20c4c52aeb0e02caa4d43", func := "example.com/hailcast/hailcast/zzlaws_announcement_b1.FnSkipSpaceEndsTheWhitespaceRun", spec := "fnSkipSpaceEndsTheWhitespaceRun", apart := false }
def FnSkipSpaceEndsTheWhitespaceRunSaid : Prop := fnSkipSpaceEndsTheWhitespaceRunRow.holds Try.pinned (OpenSpec.ofChange fnSkipSpaceEndsTheWhitespaceRunSpec)

/-- ITS FALSE NEIGHBOUR: 'it returns false'. Refute it at one input. -/
def fnSkipSpaceEndsTheWhitespaceRunWrong : ChangeSpec := { name := "fnSkipSpaceEndsTheWhitespaceRun", fn := fun _ => fun
  | [d1, d2] => { results := [.lit (.bool false)], args := [d1, d2] }
  | _ => none }
def FnSkipSpaceEndsTheWhitespaceRunWrongFalsely : Prop := fnSkipSpaceEndsTheWhitespaceRunRow.holds Try.pinned (OpenSpec.ofChange fnSkipSpaceEndsTheWhitespaceRunWrong)

end Rows
end Go.Proofs.Qxb6605439a
