/-
  No cell of these rows narrows 'for every input' (looked for: loops, veiled, ifaces, maps, wideKeys, modest, calm, conditions, laid).
  DERIVED. THE GIVEN ROWS OF THIS SEAT. 3 by the template 'for every input the law returns true; each argument reads behind the call as it read before'; 0 by the template 'total and deterministic' (their statements: Qxb6605680aTotals.lean).
  GIVEN WITH THE SEED: the statements are not yours to turn. If you find one false, say at which input.
  Laid BY PROGRAM, IN A SANDBOX (cutbox-rows.mjs): the forced cells as the released guide's own fill.sh prints them over the translation 8bb487def78f3ddc… (all of the seat's roots in one cut). By AI agents, Wed Nov 11 2026. No macro, syntax, notation, axiom, sorry.
-/
import Derived.Test.Qxb6605680aChecked
import GoSem.Claim
import GoSem.ClaimJoined
import GoSem.ClaimMapViews
import Derived.JoinedTies
import Derived.KernelRfl
namespace Go.Proofs.Qxb6605680a
/- THE CELL 'sum', in the pinned program and in every row, IS THE sha256 OF THE DUMP (.gsa) THAT Qxb6605680aProg.lean LOADS. Nothing in Lean hashes anything: it is a label: what it is worth is what the hold of that sum in a sandbox is worth. -/
noncomputable def Try.pinned : Pinned := { name := "qxb6605680a", sum := "8bb487def78f3ddcc5b1a701cf71cf4d7846bc66dd03b6451d8862f28724caec", checked := Try.checked }
namespace Rows
def none {H : Type} : Left H := { results := [], args := [] }

/-- 'zzlaws_internal_sse_b1.FnNewEventMatchesFieldModel': WHATEVER THE INPUT: true; the input reads as it did. -/
def fnNewEventMatchesFieldModelSpec : ChangeSpec := { name := "fnNewEventMatchesFieldModel", fn := fun _ => fun
  | [d] => { results := [.lit (.bool true)], args := [d] }
  | _ => none }
def fnNewEventMatchesFieldModelRow : OpenClaim := { program := "qxb6605680a", sum := "8bb487def78f3ddcc5b1a701cf71cf4d7846bc66dd03b6451d8862f28724caec", func := "example.com/breakwater/breakwater/zzlaws_internal_sse_b1.FnNewEventMatchesFieldModel", spec := "fnNewEventMatchesFieldModel", inPlace := ["internal/bytealg.IndexByte", "internal/bytealg.Index"], unfollowed := true, recurses := true, named := ["internal/bytealg.MaxLen"], apart := false }
def FnNewEventMatchesFieldModelSaid : Prop := fnNewEventMatchesFieldModelRow.holds Try.pinned (OpenSpec.ofChange fnNewEventMatchesFieldModelSpec)

/-- ITS FALSE NEIGHBOUR: 'it returns false'. Refute it at one input. -/
def fnNewEventMatchesFieldModelWrong : ChangeSpec := { name := "fnNewEventMatchesFieldModel", fn := fun _ => fun
  | [d] => { results := [.lit (.bool false)], args := [d] }
  | _ => none }
def FnNewEventMatchesFieldModelWrongFalsely : Prop := fnNewEventMatchesFieldModelRow.holds Try.pinned (OpenSpec.ofChange fnNewEventMatchesFieldModelWrong)

/-- 'zzlaws_internal_sse_b1.FnNewEventReadsBackAppendEvent': WHATEVER THE INPUT: true; the input reads as it did. -/
def fnNewEventReadsBackAppendEventSpec : ChangeSpec := { name := "fnNewEventReadsBackAppendEvent", fn := fun _ => fun
  | [d1, d2, d3] => { results := [.lit (.bool true)], args := [d1, d2, d3] }
  | _ => none }
def fnNewEventReadsBackAppendEventRow : OpenClaim := { program := "qxb6605680a", sum := "8bb487def78f3ddcc5b1a701cf71cf4d7846bc66dd03b6451d8862f28724caec", func := "example.com/breakwater/breakwater/zzlaws_internal_sse_b1.FnNewEventReadsBackAppendEvent", spec := "fnNewEventReadsBackAppendEvent", inPlace := ["internal/bytealg.IndexByte", "internal/bytealg.Index"], unfollowed := true, recurses := true, named := ["internal/bytealg.MaxLen"], apart := false }
def FnNewEventReadsBackAppendEventSaid : Prop := fnNewEventReadsBackAppendEventRow.holds Try.pinned (OpenSpec.ofChange fnNewEventReadsBackAppendEventSpec)

/-- ITS FALSE NEIGHBOUR: 'it returns false'. Refute it at one input. -/
def fnNewEventReadsBackAppendEventWrong : ChangeSpec := { name := "fnNewEventReadsBackAppendEvent", fn := fun _ => fun
  | [d1, d2, d3] => { results := [.lit (.bool false)], args := [d1, d2, d3] }
  | _ => none }
def FnNewEventReadsBackAppendEventWrongFalsely : Prop := fnNewEventReadsBackAppendEventRow.holds Try.pinned (OpenSpec.ofChange fnNewEventReadsBackAppendEventWrong)

/-- 'zzlaws_internal_sse_b1.FnAppendEventExtendsStream': WHATEVER THE INPUT: true; the input reads as it did. -/
def fnAppendEventExtendsStreamSpec : ChangeSpec := { name := "fnAppendEventExtendsStream", fn := fun _ => fun
  | [d1, d2, d3] => { results := [.lit (.bool true)], args := [d1, d2, d3] }
  | _ => none }
def fnAppendEventExtendsStreamRow : OpenClaim := { program := "qxb6605680a", sum := "8bb487def78f3ddcc5b1a701cf71cf4d7846bc66dd03b6451d8862f28724caec", func := "example.com/breakwater/breakwater/zzlaws_internal_sse_b1.FnAppendEventExtendsStream", spec := "fnAppendEventExtendsStream", apart := false }
def FnAppendEventExtendsStreamSaid : Prop := fnAppendEventExtendsStreamRow.holds Try.pinned (OpenSpec.ofChange fnAppendEventExtendsStreamSpec)

/-- ITS FALSE NEIGHBOUR: 'it returns false'. Refute it at one input. -/
def fnAppendEventExtendsStreamWrong : ChangeSpec := { name := "fnAppendEventExtendsStream", fn := fun _ => fun
  | [d1, d2, d3] => { results := [.lit (.bool false)], args := [d1, d2, d3] }
  | _ => none }
def FnAppendEventExtendsStreamWrongFalsely : Prop := fnAppendEventExtendsStreamRow.holds Try.pinned (OpenSpec.ofChange fnAppendEventExtendsStreamWrong)

end Rows
end Go.Proofs.Qxb6605680a
