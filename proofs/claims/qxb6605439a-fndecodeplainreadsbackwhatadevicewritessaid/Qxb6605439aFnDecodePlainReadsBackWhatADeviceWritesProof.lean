/-
  THE PROOF OF 'Rows.FnDecodePlainReadsBackWhatADeviceWritesSaid' ('example.com/hailcast/hailcast/zzlaws_announcement_b1.FnDecodePlainReadsBackWhatADeviceWrites'), in the guide's frame, a slice of strings opened by 'open_strings'.
-/
import Derived.Test.Qxb6605439aRows
import Derived.Test.Qxb6605439aLaw2
import Derived.Test.Qxb6605439aLaw3
import Derived.WalkKit
import Derived.ProofKit
import Derived.OpenShut
import Derived.ShutString
import Derived.ChangeOld
import Derived.Below
import Derived.SliceStrings
namespace Go.Proofs.Qxb6605439a.fnDecodePlainReadsBackWhatADeviceWrites
open Go.ChangeShapes Go.WideShapes Go.ChangeAt Go.RowKit
open Go.ChangeMaps (open_string shut_string)
set_option linter.unusedVariables false

theorem own : ownKnob Try.prog.godebug = none := by kernel_rfl
theorem laidOut : laidOutB Try.prog = true := by kernel_rfl
theorem cells9 : Try.prog.cellsOf 9 = 1 := by kernel_rfl

/-- a slice of strings that came in -/
def IsStrs (w : World) (a : Option Addr) (len : Nat) (ss : List ByteArray) : Prop :=
  len = ss.length ∧ len ≤ maxLen ∧ (len = 0 ∨ ∃ x, a = some x ∧ ∀ i (hi : i < ss.length), w.cell? (x.add i) = some (.string ss[i]))

/-! ### STEP 1: THE WALK -/
theorem walk (a0 : Option Addr) (len0 cap0 : Nat) (ss : List ByteArray) (a1 : ByteArray) (w : World) (w0 : IsStrs w a0 len0 ss) (w1 : a1.size ≤ maxLen) :
    Calls Try.prog 4 #[.slice a0 len0 cap0, .string a1] w fun e w' => e = .returned (.bool true) ∧ Below w.heap.size w w' := by
  obtain ⟨hl, hm, hc⟩ := w0
  unfold maxLen at hm w1
  obtain ⟨B, o, ha, hcell⟩ : ∃ B o, (0 < len0 → a0 = some ⟨B, o, none⟩) ∧ ∀ i (hi : i < ss.length), w.cell? ⟨B, o + i, none⟩ = some (.string ss[i]) := by
    rcases hc with h0 | ⟨x, rfl, hx⟩
    · exact ⟨0, 0, fun h => by omega, fun i hi => by omega⟩
    · by_cases h0 : 0 < len0
      · have hs := World.cell?_spot (hx 0 (by omega))
        obtain ⟨b, o, sp⟩ := x
        simp [Addr.add] at hs
        subst hs
        exact ⟨b, o, fun _ => rfl, fun i hi => by have := hx i hi; rwa [add_plain] at this⟩
      · exact ⟨0, 0, fun h => absurd h h0, fun i hi => by omega⟩
  by_cases h : (len0 : Int) ≤ 65536 ∧ (a1.size : Int) ≤ 65536 ∧ (a1.size : Int) + 16 * (len0 : Int) ≤ 1048576
  · exact law_near a0 len0 cap0 B o ss a1 w hl ha hcell h.1 h.2.1 h.2.2
  · exact law_far a0 len0 cap0 B o ss a1 w hl (by omega) (by omega) ha hcell h

/-! ### THE ROW's STEP -/
set_option maxRecDepth 100000 in
theorem lifted (os : Os) (started : os.Started) (H : Type) (enc : TypeId × Value → H) :
    ReturnsInHanded {} Try.checked os 4 .any (Rows.fnDecodePlainReadsBackWhatADeviceWritesSpec.pre6 enc Try.prog Try.f4 Rows.fnDecodePlainReadsBackWhatADeviceWritesRow.domain false) (Rows.fnDecodePlainReadsBackWhatADeviceWritesSpec.post enc Try.prog Try.f4 false true false false) := by
  refine returnsInHanded_of_change (C := Try.checked) own started (by kernel_rfl) Try.func4
    (ChangeSpec.witness6 (enc := enc) (C := Try.checked) false ⟨#[], #[.slice none 0 0, .string ByteArray.empty], []⟩ 8 (by kernel_rfl) (by kernel_rfl) (by kernel_rfl) (by kernel_rfl)) ?_
  intro W base args ds gs before hval0 hW hcnd _
  have hval : ∀ (j : Nat) t v, Try.f4.params[j]? = some t → args[j]? = some v → Value.okWide Try.prog W .any base t v := hval0
  have hW' := hW
  obtain ⟨p, q, hA0, hV, rfl, hfz, hnd⟩ := hW
  have hA : DataW.TrodAll enc Try.prog W 0 (fun _ => true) true Try.f4.params.toList args.toList ds p := hA0
  rw [Try.params4] at hA hval
  obtain ⟨v0, vs0, d0, ds0, p0, q0, hargs, rfl, rfl, h0, r0⟩ := trodAll_cons hA
  obtain ⟨v1, vs1, d1, ds1, p1, q1, rfl, rfl, rfl, h1, r1⟩ := trodAll_cons r0
  obtain ⟨rfl, rfl, rfl⟩ := trodAll_nil r1
  obtain rfl : args = #[v0, v1] := by cases args; simp_all
  obtain ⟨rfl, rfl⟩ := trodVars_none hV
  obtain ⟨a0, len0, cap0, rfl⟩ := okWide_slice Try.underlying24 (hval 0 24 v0 rfl rfl)
  have k0 := h0
  have lt0 : ∀ x ∈ p0, x.block < W.heap.size := by obtain ⟨m, hm⟩ := k0; exact DataW.trod_lt m _ _ _ hm
  obtain ⟨ss, w0⟩ : ∃ ss, IsStrs W a0 len0 ss := by
    obtain ⟨fuel, hf⟩ := h0
    rcases open_strings Try.underlying24 Try.underlying9 cells9 hf with ⟨hcs, _⟩ | ⟨x, l, c, ss, hcs, _, hl, hm, hz, _, hcell, hwz⟩
    · simp [Value.cells] at hcs
      obtain ⟨rfl, rfl, rfl⟩ := hcs
      exact ⟨[], rfl, Nat.zero_le _, .inl rfl⟩
    · simp [Value.cells] at hcs
      obtain ⟨rfl, rfl, rfl⟩ := hcs
      have hz' : ss.length = cap0 := by simpa using hz
      refine ⟨ss.take len0, by rw [List.length_take]; omega, by omega, .inr ⟨x, rfl, fun i hi => ?_⟩⟩
      rw [List.length_take] at hi
      rw [hcell i (by omega), List.getD, List.getElem?_eq_getElem (by omega), List.getElem_take]
      rfl
  obtain ⟨a1, rfl, rfl, rfl, w1⟩ := open_string Try.underlying9 (hval 1 9 v1 rfl rfl) h1
  clear hA0 hval0
  refine (walk a0 len0 cap0 ss a1 W w0 w1).mono fun e W' ⟨he, bel⟩ => ?_
  subst he
  exact ⟨_, rfl, _, _, _, [], _, [], hW', trodAll_mk1 (shut_bool Try.underlying4 _), (trodAll_cons_mk (Below.trod laidOut (by kernel_rfl) (of_decide_eq_true (by kernel_rfl)) k0 bel lt0) (trodAll_cons_mk (shut_string Try.underlying9 w1) trodAll_mk0)), rfl, bel.frame _, fun h => by cases h⟩

theorem over : Rows.fnDecodePlainReadsBackWhatADeviceWritesRow.holds Try.pinned (OpenSpec.ofChange Rows.fnDecodePlainReadsBackWhatADeviceWritesSpec) :=
  OpenClaim.holds_of_wide 4 Try.f4 rfl rfl rfl rfl rfl rfl rfl ⟨rfl, rfl, rfl, rfl, rfl⟩ rfl rfl rfl rfl rfl (by kernel_rfl) Try.func4 (by kernel_rfl)
    (of_decide_eq_true (by kernel_rfl)) (by unfold Func.isWrapper; first | (rw [if_pos (by decide +kernel)]; kernel_rfl) | (rw [if_neg (by decide +kernel)]; exact ⟨rfl, rfl⟩))
    (fun os started H enc _ => lifted os started H enc)

/-- ████ THE STATEMENT ████ -/
theorem proved : Rows.FnDecodePlainReadsBackWhatADeviceWritesSaid := over
#print axioms proved
end Go.Proofs.Qxb6605439a.fnDecodePlainReadsBackWhatADeviceWrites
