/-
  THE PROOF OF 'Rows.FnIsPlainMatchesAutomatonSaid' ('example.com/tuoguan/tuoguan/zzlaws_internal_figure_b1.FnIsPlainMatchesAutomaton'), in the guide's frame (proof-skeleton.mjs), the walk filled in; the frame's end by 'Below' (isDigits makes new memory).
-/
import Derived.Test.Qxb6605437aRows
import Derived.Test.Qxb6605437aIsPlain
import Derived.WalkKit
import Derived.ProofKit
import Derived.OpenShut
import Derived.ShutString
import Derived.Below
namespace Go.Proofs.Qxb6605437a.fnIsPlainMatchesAutomaton
open Go.ChangeShapes Go.WideShapes Go.ChangeAt Go.RowKit
open Go.ChangeMaps (open_string shut_string)
set_option linter.unusedVariables false      -- a walk need not use every 'w<i>' (that an integer argument fits its kind)

theorem own : ownKnob Try.prog.godebug = none := by kernel_rfl

/-! ### STEP 1: THE WALK -/
theorem walk (a0 : ByteArray) (w0 : a0.size ≤ maxLen) (w : World) :
    Calls Try.prog 7 #[.string a0] w fun e w' => e = .returned (.bool true) ∧ Below w.heap.size w w' := by
  by_cases h : (a0.size : Int) ≤ 1048576
  · have hl : a0.size ≤ 9223372036854775806 := by omega
    have HE : Hid ((Pl.plain a0.data.toList == Pl.runA 0 a0.data.toList) = true) := by
      unfold Hid; rw [Pl.plain_auto]; simp
    have hp : Hid (∀ w, Calls Try.prog 15 #[.string a0] w fun e w' => e = .returned (.bool (Pl.plain a0.data.toList)) ∧ Below w.heap.size w w') := fun w => zzIsPlain_any a0 w hl
    have ha : Hid (∀ w, Calls Try.prog 16 #[.string a0] w fun e w' => e = .returned (.bool (Pl.runA 0 a0.data.toList)) ∧ w' = w) := fun w => auto_any a0 w w0
    generalize Pl.plain a0.data.toList = p at *
    generalize Pl.runA 0 a0.data.toList = q at *
    go_enter Try.func7, Try.ntmps7
    go_wp2_with (first
      | (go_at_call 14; refine (zz14_yes _ _ h).mono ?_; rintro e w' ⟨rfl, rfl⟩)
      | (go_at_call 15; refine (hp.out _).mono ?_; rintro e w1 ⟨rfl, hb1⟩)
      | (go_at_call 16; refine (ha.out _).mono ?_; rintro e w2 ⟨rfl, rfl⟩))
    go_ret
    exact ⟨ret_bool HE.out, hb1⟩
  · have h' : 1048576 < (a0.size : Int) := by omega
    go_enter Try.func7, Try.ntmps7
    go_wp2_with (go_at_call 14; refine (zz14_no _ _ h').mono ?_; rintro e w' ⟨rfl, rfl⟩)
    go_ret
    exact ⟨rfl, Below.refl _ _⟩

/-! ### THE ROW's STEP: WRITTEN OUT: LEAVE IT -/
set_option maxRecDepth 100000 in
theorem lifted (os : Os) (started : os.Started) (H : Type) (enc : TypeId × Value → H) :
    ReturnsInHanded {} Try.checked os 7 .any (Rows.fnIsPlainMatchesAutomatonSpec.pre6 enc Try.prog Try.f7 Rows.fnIsPlainMatchesAutomatonRow.domain false) (Rows.fnIsPlainMatchesAutomatonSpec.post enc Try.prog Try.f7 false true false false) := by
  refine returnsInHanded_of_change (C := Try.checked) own started (by kernel_rfl) Try.func7
    (ChangeSpec.witness6 (enc := enc) (C := Try.checked) false ⟨#[], #[.string ByteArray.empty], []⟩ 8 (by kernel_rfl) (by kernel_rfl) (by kernel_rfl) (by kernel_rfl)) ?_
  intro W base args ds gs before hval0 hW hcnd _
  have hval : ∀ (j : Nat) t v, Try.f7.params[j]? = some t → args[j]? = some v → Value.okWide Try.prog W .any base t v := hval0
  have hW' := hW
  obtain ⟨p, q, hA0, hV, rfl, hfz, hnd⟩ := hW
  have hA : DataW.TrodAll enc Try.prog W 0 (fun _ => true) true Try.f7.params.toList args.toList ds p := hA0
  rw [Try.params7] at hA hval
  obtain ⟨v0, vs0, d0, ds0, p0, q0, hargs, rfl, rfl, h0, r0⟩ := trodAll_cons hA
  obtain ⟨rfl, rfl, rfl⟩ := trodAll_nil r0
  obtain rfl : args = #[v0] := by cases args; simp_all
  obtain ⟨rfl, rfl⟩ := trodVars_none hV
  obtain ⟨a0, rfl, rfl, rfl, w0⟩ := open_string Try.underlying9 (hval 0 9 v0 rfl rfl) h0
  clear hA0 hval0
  simp only [List.append_nil] at hW'
  refine (walk a0 w0 W).mono fun e W' ⟨he, bel⟩ => ?_
  subst he
  exact ⟨_, rfl, _, _, _, [], _, [], hW', trodAll_mk1 (shut_bool Try.underlying4 _), (trodAll_cons_mk (shut_string Try.underlying9 w0) trodAll_mk0), rfl, bel.frame _, fun h => by cases h⟩

theorem over : Rows.fnIsPlainMatchesAutomatonRow.holds Try.pinned (OpenSpec.ofChange Rows.fnIsPlainMatchesAutomatonSpec) :=
  OpenClaim.holds_of_wide 7 Try.f7 rfl rfl rfl rfl rfl rfl rfl ⟨rfl, rfl, rfl, rfl, rfl⟩ rfl rfl rfl rfl rfl (by kernel_rfl) Try.func7 (by kernel_rfl)
    (of_decide_eq_true (by kernel_rfl)) (by unfold Func.isWrapper; first | (rw [if_pos (by decide +kernel)]; kernel_rfl) | (rw [if_neg (by decide +kernel)]; exact ⟨rfl, rfl⟩))
    (fun os started H enc _ => lifted os started H enc)

/-- ████ THE STATEMENT ████ -/
theorem proved : Rows.FnIsPlainMatchesAutomatonSaid :=
  over
#print axioms proved
end Go.Proofs.Qxb6605437a.fnIsPlainMatchesAutomaton
