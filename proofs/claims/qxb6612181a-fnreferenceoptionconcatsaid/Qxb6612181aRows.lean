/-
  No cell of these rows narrows 'for every input' (looked for: loops, veiled, ifaces, maps, wideKeys, modest, calm, conditions, laid).
  DERIVED. THE GIVEN ROWS OF THIS SEAT. 4 by the template 'for every input the law returns true; each argument reads behind the call as it read before'; 0 by the template 'total and deterministic' (their statements: Qxb6612181aTotals.lean).
  GIVEN WITH THE SEED: the statements are not yours to turn. If you find one false, say at which input.
  Laid BY PROGRAM, IN A SANDBOX (cutbox-rows.mjs): the forced cells as the released guide's own fill.sh prints them over the translation 4c4a710755fb5df4… (all of the seat's roots in one cut). By AI agents, Wed Nov 11 2026. No macro, syntax, notation, axiom, sorry.
-/
import Derived.Test.Qxb6612181aChecked
import GoSem.Claim
import GoSem.ClaimJoined
import GoSem.ClaimMapViews
import Derived.JoinedTies
import Derived.KernelRfl
namespace Go.Proofs.Qxb6612181a
/- THE CELL 'sum', in the pinned program and in every row, IS THE sha256 OF THE DUMP (.gsa) THAT Qxb6612181aProg.lean LOADS. Nothing in Lean hashes anything: it is a label: what it is worth is what the hold of that sum in a sandbox is worth. -/
noncomputable def Try.pinned : Pinned := { name := "qxb6612181a", sum := "4c4a710755fb5df4b20de39e093448c2a0ebb1eb4905fdf273053fb7e12be2fb", checked := Try.checked }
namespace Rows
def none {H : Type} : Left H := { results := [], args := [] }

/-- 'zzlaws_internal_deny_b1.FnInTreeAncestorModel': WHATEVER THE INPUT: true; the input reads as it did. -/
def fnInTreeAncestorModelSpec : ChangeSpec := { name := "fnInTreeAncestorModel", fn := fun _ => fun
  | [d1, d2] => { results := [.lit (.bool true)], args := [d1, d2] }
  | _ => none }
def fnInTreeAncestorModelRow : OpenClaim := { program := "qxb6612181a", sum := "4c4a710755fb5df4b20de39e093448c2a0ebb1eb4905fdf273053fb7e12be2fb", func := "example.com/mora/mora/zzlaws_internal_deny_b1.FnInTreeAncestorModel", spec := "fnInTreeAncestorModel", apart := false }
def FnInTreeAncestorModelSaid : Prop := fnInTreeAncestorModelRow.holds Try.pinned (OpenSpec.ofChange fnInTreeAncestorModelSpec)

/-- ITS FALSE NEIGHBOUR: 'it returns false'. Refute it at one input. -/
def fnInTreeAncestorModelWrong : ChangeSpec := { name := "fnInTreeAncestorModel", fn := fun _ => fun
  | [d1, d2] => { results := [.lit (.bool false)], args := [d1, d2] }
  | _ => none }
def FnInTreeAncestorModelWrongFalsely : Prop := fnInTreeAncestorModelRow.holds Try.pinned (OpenSpec.ofChange fnInTreeAncestorModelWrong)

/-- 'zzlaws_internal_deny_b1.FnInTreePartialOrder': WHATEVER THE INPUT: true; the input reads as it did. -/
def fnInTreePartialOrderSpec : ChangeSpec := { name := "fnInTreePartialOrder", fn := fun _ => fun
  | [d1, d2, d3] => { results := [.lit (.bool true)], args := [d1, d2, d3] }
  | _ => none }
def fnInTreePartialOrderRow : OpenClaim := { program := "qxb6612181a", sum := "4c4a710755fb5df4b20de39e093448c2a0ebb1eb4905fdf273053fb7e12be2fb", func := "example.com/mora/mora/zzlaws_internal_deny_b1.FnInTreePartialOrder", spec := "fnInTreePartialOrder", apart := false }
def FnInTreePartialOrderSaid : Prop := fnInTreePartialOrderRow.holds Try.pinned (OpenSpec.ofChange fnInTreePartialOrderSpec)

/-- ITS FALSE NEIGHBOUR: 'it returns false'. Refute it at one input. -/
def fnInTreePartialOrderWrong : ChangeSpec := { name := "fnInTreePartialOrder", fn := fun _ => fun
  | [d1, d2, d3] => { results := [.lit (.bool false)], args := [d1, d2, d3] }
  | _ => none }
def FnInTreePartialOrderWrongFalsely : Prop := fnInTreePartialOrderRow.holds Try.pinned (OpenSpec.ofChange fnInTreePartialOrderWrong)

/-- 'zzlaws_internal_deny_b1.FnReferenceOptionModel': WHATEVER THE INPUT: true; the input reads as it did. -/
def fnReferenceOptionModelSpec : ChangeSpec := { name := "fnReferenceOptionModel", fn := fun _ => fun
  | [d] => { results := [.lit (.bool true)], args := [d] }
  | _ => none }
def fnReferenceOptionModelRow : OpenClaim := { program := "qxb6612181a", sum := "4c4a710755fb5df4b20de39e093448c2a0ebb1eb4905fdf273053fb7e12be2fb", func := "example.com/mora/mora/zzlaws_internal_deny_b1.FnReferenceOptionModel", spec := "fnReferenceOptionModel", inPlace := ["internal/bytealg.IndexByteString", "internal/bytealg.IndexString"], named := ["internal/bytealg.MaxLen"], apart := false }
def FnReferenceOptionModelSaid : Prop := fnReferenceOptionModelRow.holds Try.pinned (OpenSpec.ofChange fnReferenceOptionModelSpec)

/-- ITS FALSE NEIGHBOUR: 'it returns false'. Refute it at one input. -/
def fnReferenceOptionModelWrong : ChangeSpec := { name := "fnReferenceOptionModel", fn := fun _ => fun
  | [d] => { results := [.lit (.bool false)], args := [d] }
  | _ => none }
def FnReferenceOptionModelWrongFalsely : Prop := fnReferenceOptionModelRow.holds Try.pinned (OpenSpec.ofChange fnReferenceOptionModelWrong)

/-- 'zzlaws_internal_deny_b1.FnReferenceOptionConcat': WHATEVER THE INPUT: true; the input reads as it did. -/
def fnReferenceOptionConcatSpec : ChangeSpec := { name := "fnReferenceOptionConcat", fn := fun _ => fun
  | [d1, d2] => { results := [.lit (.bool true)], args := [d1, d2] }
  | _ => none }
def fnReferenceOptionConcatRow : OpenClaim := { program := "qxb6612181a", sum := "4c4a710755fb5df4b20de39e093448c2a0ebb1eb4905fdf273053fb7e12be2fb", func := "example.com/mora/mora/zzlaws_internal_deny_b1.FnReferenceOptionConcat", spec := "fnReferenceOptionConcat", inPlace := ["internal/bytealg.IndexByteString", "internal/bytealg.IndexString"], named := ["internal/bytealg.MaxLen"], apart := false }
def FnReferenceOptionConcatSaid : Prop := fnReferenceOptionConcatRow.holds Try.pinned (OpenSpec.ofChange fnReferenceOptionConcatSpec)

/-- ITS FALSE NEIGHBOUR: 'it returns false'. Refute it at one input. -/
def fnReferenceOptionConcatWrong : ChangeSpec := { name := "fnReferenceOptionConcat", fn := fun _ => fun
  | [d1, d2] => { results := [.lit (.bool false)], args := [d1, d2] }
  | _ => none }
def FnReferenceOptionConcatWrongFalsely : Prop := fnReferenceOptionConcatRow.holds Try.pinned (OpenSpec.ofChange fnReferenceOptionConcatWrong)

end Rows
end Go.Proofs.Qxb6612181a
