/-
  THE PROOF OF 'Rows.FnReferenceOptionConcatSaid', in the guide's frame (proof-skeleton.mjs), the walk filled in.
-/
import Derived.Test.Qxb6612181aRows
import Derived.Test.Qxb6612181aRef
import Derived.WalkKit
import Derived.ProofKit
import Derived.OpenShut
import Derived.ShutString
namespace Go.Proofs.Qxb6612181a.fnReferenceOptionConcat
open Go.ChangeShapes Go.WideShapes Go.ChangeAt Go.RowKit
open Go.ChangeMaps (open_string shut_string)
set_option linter.unusedVariables false      -- a walk need not use every 'w<i>' (that an integer argument fits its kind)

theorem own : ownKnob Try.prog.godebug = none := by kernel_rfl

/-! ### STEP 1: THE WALK -/
theorem head_at {s : ByteArray} (h : 0 < s.size) : s.data.toList.head? = some s[0] := by
  have hl : 0 < s.data.toList.length := by simpa using h
  rw [List.head?_eq_getElem?, List.getElem?_eq_getElem hl, Array.getElem_toList]
  rfl

set_option maxHeartbeats 4000000 in
theorem near (s t : ByteArray) (h1 : (s.size : Int) ≤ 1048576) (h2 : (t.size : Int) ≤ 1048576) (h3 : (s.size : Int) + (t.size : Int) ≤ 1048576) (w : World) :
    Calls Try.prog 6 #[.string s, .string t] w fun e w' => e = .returned (.bool true) ∧ Grown w w' := by
  have HZ : Hid (Calls Try.prog 13 #[.string s, .string t] w fun e w' => AnyB e ∧ w' = w) := zz13_any s t w (by omega) (by omega)
  obtain ⟨bst, HBst⟩ : ∃ b, Hid (ro (s.data.toList ++ t.data.toList) = b) := ⟨_, rfl⟩
  obtain ⟨bs, HBs⟩ : ∃ b, Hid (ro s.data.toList = b) := ⟨_, rfl⟩
  obtain ⟨bt, HBt⟩ : ∃ b, Hid (ro t.data.toList = b) := ⟨_, rfl⟩
  obtain ⟨ht, HHt⟩ : ∃ b, Hid (decide (110 ∈ t.data.toList) = b) := ⟨_, rfl⟩
  have HRst : Hid (∀ w, Calls Try.prog 12 #[.string (s ++ t)] w fun e w' => e = .returned (.bool bst) ∧ w' = w) := fun w => by
    have e := ref12 (s ++ t) w
    rw [show (s ++ t).data.toList = s.data.toList ++ t.data.toList by simp, HBst.out] at e; exact e
  have HRs : Hid (∀ w, Calls Try.prog 12 #[.string s] w fun e w' => e = .returned (.bool bs) ∧ w' = w) := fun w => by rw [← HBs.out]; exact ref12 s w
  have HRt : Hid (∀ w, Calls Try.prog 12 #[.string t] w fun e w' => e = .returned (.bool bt) ∧ w' = w) := fun w => by rw [← HBt.out]; exact ref12 t w
  have HHn : Hid (∀ w, Calls Try.prog 14 #[.string t] w fun e w' => e = .returned (.bool ht) ∧ w' = w) := fun w => by rw [← HHt.out]; exact holds_any t w (by omega)
  by_cases h0 : (0 : Int) < (s.size : Int)
  · have hh := head_at (s := s) (by omega)
    have hne : s.toList.isEmpty = false := by
      have hl : s.data.toList.length = s.size := by simp
      rw [Lib.toList_data]
      cases h : s.data.toList with
      | nil => rw [h] at hl; simp at hl; omega
      | cons a l => rfl
    have hhst : (s.data.toList ++ t.data.toList).head? = some s[0] := by rw [List.head?_append, hh]; rfl
    by_cases h45 : ((s[0].toNat : Int) == 45) = true
    · have e : s[0] = 45 := by
        rw [beq_iff_eq] at h45
        have : s[0].toNat = 45 := by omega
        rw [← UInt8.toNat_inj, this]; rfl
      have HV : Hid (bst = (bs || ht)) := by
        rw [← HBst.out, ← HBs.out, ← HHt.out]; unfold Hid ro; rw [hhst, hh, e]; simp [List.mem_append]
      clear hh hhst e
      have hv := HV.out
      clear HV
      cases bs <;> cases ht <;> (subst hv) <;> (
        go_enter Try.func6, Try.ntmps6
        go_wp2_with fail
        refine HZ.out.mono ?_
        rintro r w' ⟨⟨b, rfl⟩, rfl⟩
        cases b
        · go_wp2
          go_ret
          exact ⟨rfl, Grown.refl _⟩
        · go_wp2_with (first | (go_at_call 12; refine (HRst.out _).mono ?_; rintro e w' ⟨rfl, rfl⟩) | (go_at_call 12; refine (HRs.out _).mono ?_; rintro e w' ⟨rfl, rfl⟩) | (go_at_call 14; refine (HHn.out _).mono ?_; rintro e w' ⟨rfl, rfl⟩) | (go_at_call 12; refine (HRt.out _).mono ?_; rintro e w' ⟨rfl, rfl⟩))
          go_ret
          exact ⟨rfl, Grown.refl _⟩)
    · have h45' : ((s[0].toNat : Int) == 45) = false := by simpa using h45
      have e : s[0] ≠ 45 := by
        rw [beq_eq_false_iff_ne] at h45'
        intro e; rw [e] at h45'; exact h45' rfl
      obtain rfl : bst = false := by rw [← HBst.out]; unfold ro; rw [hhst]; simp [e]
      obtain rfl : bs = false := by rw [← HBs.out]; unfold ro; rw [hh]; simp [e]
      clear hh hhst e h45
      go_enter Try.func6, Try.ntmps6
      go_wp2_with fail
      refine HZ.out.mono ?_
      rintro r w' ⟨⟨b, rfl⟩, rfl⟩
      cases b
      · go_wp2
        go_ret
        exact ⟨rfl, Grown.refl _⟩
      · go_wp2_with (first | (go_at_call 12; refine (HRst.out _).mono ?_; rintro e w' ⟨rfl, rfl⟩) | (go_at_call 12; refine (HRs.out _).mono ?_; rintro e w' ⟨rfl, rfl⟩) | (go_at_call 14; refine (HHn.out _).mono ?_; rintro e w' ⟨rfl, rfl⟩) | (go_at_call 12; refine (HRt.out _).mono ?_; rintro e w' ⟨rfl, rfl⟩))
        go_ret
        exact ⟨rfl, Grown.refl _⟩
  · have es : s.data.toList = [] := by
      have hl : s.data.toList.length = s.size := by simp
      exact List.eq_nil_of_length_eq_zero (by omega)
    have hemp : s.toList.isEmpty = true := by rw [Lib.toList_data, es]; rfl
    obtain rfl : bs = false := by rw [← HBs.out, es]; rfl
    obtain rfl : bst = bt := by rw [← HBst.out, ← HBt.out, es]; rfl
    have h0' : decide ((0 : Int) < (s.size : Int)) = false := by simpa using h0
    clear es
    go_enter Try.func6, Try.ntmps6
    go_wp2_with fail
    refine HZ.out.mono ?_
    rintro r w' ⟨⟨b, rfl⟩, rfl⟩
    cases b
    · go_wp2
      go_ret
      exact ⟨rfl, Grown.refl _⟩
    · go_wp2_with (first | (go_at_call 12; refine (HRst.out _).mono ?_; rintro e w' ⟨rfl, rfl⟩) | (go_at_call 12; refine (HRs.out _).mono ?_; rintro e w' ⟨rfl, rfl⟩) | (go_at_call 14; refine (HHn.out _).mono ?_; rintro e w' ⟨rfl, rfl⟩) | (go_at_call 12; refine (HRt.out _).mono ?_; rintro e w' ⟨rfl, rfl⟩))
      go_ret
      exact ⟨by simp, Grown.refl _⟩

theorem walk (a0 : ByteArray) (a1 : ByteArray) (w0 : a0.size ≤ maxLen) (w1 : a1.size ≤ maxLen) (w : World) :
    Calls Try.prog 6 #[.string a0, .string a1] w fun e w' => e = .returned (.bool true) ∧ Grown w w' := by
  unfold maxLen at w0 w1
  have HZ : Hid (Calls Try.prog 13 #[.string a0, .string a1] w fun e w' => AnyB e ∧ w' = w) := zz13_any a0 a1 w (by omega) (by omega)
  by_cases h1 : (a0.size : Int) ≤ 1048576
  · by_cases h2 : (a1.size : Int) ≤ 1048576
    · by_cases h3 : (a0.size : Int) + (a1.size : Int) ≤ 1048576
      · exact near a0 a1 h1 h2 h3 w
      · go_enter Try.func6, Try.ntmps6
        go_wp2_with fail
        refine HZ.out.mono ?_
        rintro r w' ⟨⟨b, rfl⟩, rfl⟩
        cases b
        all_goals
          go_wp2
          go_ret
          exact ⟨rfl, Grown.refl _⟩
    · go_enter Try.func6, Try.ntmps6
      go_wp2_with fail
      refine HZ.out.mono ?_
      rintro r w' ⟨⟨b, rfl⟩, rfl⟩
      cases b
      all_goals
        go_wp2
        go_ret
        exact ⟨rfl, Grown.refl _⟩
  · go_enter Try.func6, Try.ntmps6
    go_wp2_with fail
    refine HZ.out.mono ?_
    rintro r w' ⟨⟨b, rfl⟩, rfl⟩
    cases b
    all_goals
      go_wp2
      go_ret
      exact ⟨rfl, Grown.refl _⟩

/-! ### THE ROW's STEP: WRITTEN OUT: LEAVE IT -/
set_option maxRecDepth 100000 in
theorem lifted (os : Os) (started : os.Started) (H : Type) (enc : TypeId × Value → H) :
    ReturnsInHanded {} Try.checked os 6 .any (Rows.fnReferenceOptionConcatSpec.pre6 enc Try.prog Try.f6 Rows.fnReferenceOptionConcatRow.domain false) (Rows.fnReferenceOptionConcatSpec.post enc Try.prog Try.f6 false true false false) := by
  refine returnsInHanded_of_change (C := Try.checked) own started (by kernel_rfl) Try.func6
    (ChangeSpec.witness6 (enc := enc) (C := Try.checked) false ⟨#[], #[.string ByteArray.empty, .string ByteArray.empty], []⟩ 8 (by kernel_rfl) (by kernel_rfl) (by kernel_rfl) (by kernel_rfl)) ?_
  intro W base args ds gs before hval0 hW hcnd _
  have hval : ∀ (j : Nat) t v, Try.f6.params[j]? = some t → args[j]? = some v → Value.okWide Try.prog W .any base t v := hval0
  have hW' := hW
  obtain ⟨p, q, hA0, hV, rfl, hfz, hnd⟩ := hW
  have hA : DataW.TrodAll enc Try.prog W 0 (fun _ => true) true Try.f6.params.toList args.toList ds p := hA0
  rw [Try.params6] at hA hval
  obtain ⟨v0, vs0, d0, ds0, p0, q0, hargs, rfl, rfl, h0, r0⟩ := trodAll_cons hA
  obtain ⟨v1, vs1, d1, ds1, p1, q1, rfl, rfl, rfl, h1, r1⟩ := trodAll_cons r0
  obtain ⟨rfl, rfl, rfl⟩ := trodAll_nil r1
  obtain rfl : args = #[v0, v1] := by cases args; simp_all
  obtain ⟨rfl, rfl⟩ := trodVars_none hV
  obtain ⟨a0, rfl, rfl, rfl, w0⟩ := open_string Try.underlying9 (hval 0 9 v0 rfl rfl) h0
  obtain ⟨a1, rfl, rfl, rfl, w1⟩ := open_string Try.underlying9 (hval 1 9 v1 rfl rfl) h1
  clear hA0 hval0
  simp only [List.append_nil] at hW'
  refine (walk a0 a1 w0 w1 W).mono fun e W' ⟨he, hg⟩ => ?_
  subst he
  exact ⟨_, rfl, post_of_same (pa := []) (pv := []) hW' (fun _ _ _ => (trodAll_cons_mk (shut_bool Try.underlying4 _) trodAll_mk0)) (fun sp _ => (trodAll_cons_mk (shut_string Try.underlying9 w0) (trodAll_cons_mk (shut_string Try.underlying9 w1) trodAll_mk0))) (fun _ _ => rfl) rfl
    (hg.frame _) hg.2.1 (ok_one (by kernel_rfl) rfl (okWide_bool_mk Try.underlying4 _))⟩

theorem over : Rows.fnReferenceOptionConcatRow.holds Try.pinned (OpenSpec.ofChange Rows.fnReferenceOptionConcatSpec) :=
  OpenClaim.holds_of_wide 6 Try.f6 rfl rfl rfl rfl rfl rfl rfl ⟨rfl, rfl, rfl, rfl, rfl⟩ rfl rfl rfl rfl rfl (by kernel_rfl) Try.func6 (by kernel_rfl)
    (of_decide_eq_true (by kernel_rfl)) (by unfold Func.isWrapper; first | (rw [if_pos (by decide +kernel)]; kernel_rfl) | (rw [if_neg (by decide +kernel)]; exact ⟨rfl, rfl⟩))
    (fun os started H enc _ => lifted os started H enc)

/-- ████ THE STATEMENT ████ -/
theorem proved : Rows.FnReferenceOptionConcatSaid :=
  over
#print axioms proved
end Go.Proofs.Qxb6612181a.fnReferenceOptionConcat
