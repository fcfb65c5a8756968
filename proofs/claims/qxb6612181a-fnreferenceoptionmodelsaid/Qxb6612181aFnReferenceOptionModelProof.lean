/-
  THE PROOF OF 'Rows.FnReferenceOptionModelSaid', in the guide's frame (proof-skeleton.mjs), the walk filled in.
-/
import Derived.Test.Qxb6612181aRows
import Derived.Test.Qxb6612181aRef
import Derived.WalkKit
import Derived.ProofKit
import Derived.OpenShut
import Derived.ShutString
namespace Go.Proofs.Qxb6612181a.fnReferenceOptionModel
open Go.ChangeShapes Go.WideShapes Go.ChangeAt Go.RowKit
open Go.ChangeMaps (open_string shut_string)
set_option linter.unusedVariables false      -- a walk need not use every 'w<i>' (that an integer argument fits its kind)

theorem own : ownKnob Try.prog.godebug = none := by kernel_rfl

/-! ### STEP 1: THE WALK -/
theorem head_at {s : ByteArray} (h : 0 < s.size) : s.data.toList.head? = some s[0] := by
  have hl : 0 < s.data.toList.length := by simpa using h
  rw [List.head?_eq_getElem?, List.getElem?_eq_getElem hl, Array.getElem_toList]
  rfl

theorem near (s : ByteArray) (hs : (s.size : Int) ≤ 1048576) (w : World) :
    Calls Try.prog 5 #[.string s] w fun e w' => e = .returned (.bool true) ∧ Grown w w' := by
  have hz := zz11_any s w (by omega)
  rw [show decide ((s.size : Int) ≤ 1048576) = true by simpa using hs] at hz
  have HZ : Hid (Calls Try.prog 11 #[.string s] w fun e w' => e = .returned (.bool true) ∧ w' = w) := hz
  obtain ⟨b, HB⟩ : ∃ b, Hid (ro s.data.toList = b) := ⟨_, rfl⟩
  have HR : Hid (∀ w, Calls Try.prog 12 #[.string s] w fun e w' => e = .returned (.bool b) ∧ w' = w) := fun w => by rw [← HB.out]; exact ref12 s w
  clear hz
  go_enter Try.func5, Try.ntmps5
  go_wp2_with (go_at_call 11; refine HZ.out.mono ?_; rintro e w' ⟨rfl, rfl⟩)
  go_loop [3, 4] (fun q i => ∃ (k c : Nat), k ≤ s.size ∧ i = .int .i64 (k : Nat) ∧ q = .int .i64 (c : Nat) ∧ c ≤ k ∧ Hid ((c = 0 → ∀ x (hx : x < s.size), x < k → ((s[x].toNat : Int) == 110) = false) ∧ (0 < c → 110 ∈ s.data.toList))) (fun _ i => s.size - (intOf i).toNat)
  case atStart => exact ⟨0, 0, Nat.zero_le _, rfl, rfl, Nat.le_refl _, fun _ x _ hx => by omega, fun h => by omega⟩
  case round =>
    obtain ⟨k, c, hk, rfl, rfl, hc, H⟩ := hrel
    by_cases hlt : k < s.size
    · by_cases h10 : ((s[k].toNat : Int) == 110) = true
      · have H2 : Hid ((c + 1 = 0 → ∀ x (hx : x < s.size), x < k + 1 → ((s[x].toNat : Int) == 110) = false) ∧ (0 < c + 1 → 110 ∈ s.data.toList)) := ⟨fun h => by omega, fun _ => at_mem hlt h10⟩
        clear H
        go_wp2
        go_round
        case rel => exact ⟨k + 1, c + 1, by omega, by go_num, by go_num, by omega, H2⟩
        case measure => simp [intOf]; omega
      · have h10' : ((s[k].toNat : Int) == 110) = false := by simpa using h10
        have H2 : Hid ((c = 0 → ∀ x (hx : x < s.size), x < k + 1 → ((s[x].toNat : Int) == 110) = false) ∧ (0 < c → 110 ∈ s.data.toList)) := by
          refine ⟨fun hc0 x hx h => ?_, H.out.2⟩
          by_cases hxk : x < k
          · exact H.out.1 hc0 x hx hxk
          · obtain rfl : x = k := by omega
            exact h10'
        clear H h10
        go_wp2
        go_round
        case rel => exact ⟨k + 1, c, by omega, by go_num, rfl, by omega, H2⟩
        case measure => simp [intOf]; omega
    · have HM : Hid (decide (110 ∈ s.data.toList) = decide (0 < c)) := by
        unfold Hid
        by_cases hc0 : 0 < c
        · simp [hc0, H.out.2 hc0]
        · have := not_mem (fun x hx => H.out.1 (by omega) x hx (by omega))
          simp [hc0, this]
      clear H
      by_cases h0 : (0 : Int) < (s.size : Int)
      · have hh := head_at (s := s) (by omega)
        by_cases h45 : ((s[0].toNat : Int) == 45) = true
        · have HV : Hid (b = decide (0 < c)) := by
            have e : s[0] = 45 := by
              rw [beq_iff_eq] at h45
              have : s[0].toNat = 45 := by omega
              rw [← UInt8.toNat_inj, this]; rfl
            rw [← HB.out]; unfold Hid ro; rw [hh, e, HM.out]; simp
          clear hh HM
          by_cases hc0 : (0 : Int) < (c : Int)
          · obtain rfl : b = true := by rw [HV.out]; simp; omega
            have hd : decide (0 < c) = true := by simp; omega
            clear HV
            go_wp2_with (go_at_call 12; refine (HR.out _).mono ?_; rintro e w' ⟨rfl, rfl⟩)
            go_ret
            exact ⟨rfl, Grown.refl _⟩
          · obtain rfl : b = false := by rw [HV.out]; simp; omega
            have hd : decide (0 < c) = false := by simp; omega
            clear HV
            go_wp2_with (go_at_call 12; refine (HR.out _).mono ?_; rintro e w' ⟨rfl, rfl⟩)
            go_ret
            exact ⟨rfl, Grown.refl _⟩
        · have h45' : ((s[0].toNat : Int) == 45) = false := by simpa using h45
          obtain rfl : b = false := by
            have e : s[0] ≠ 45 := by
              rw [beq_eq_false_iff_ne] at h45'
              intro e; rw [e] at h45'; exact h45' rfl
            rw [← HB.out]; unfold ro; rw [hh]; simp [e]
          clear hh HM h45
          go_wp2_with (go_at_call 12; refine (HR.out _).mono ?_; rintro e w' ⟨rfl, rfl⟩)
          go_ret
          exact ⟨rfl, Grown.refl _⟩
      · obtain rfl : b = false := by
          have hl : s.data.toList.length = s.size := by simp
          have e : s.data.toList = [] := List.eq_nil_of_length_eq_zero (by omega)
          rw [← HB.out]; unfold ro; rw [e]; rfl
        have h0' : decide ((0 : Int) < (s.size : Int)) = false := by simpa using h0
        clear HM
        go_wp2_with (go_at_call 12; refine (HR.out _).mono ?_; rintro e w' ⟨rfl, rfl⟩)
        go_ret
        exact ⟨rfl, Grown.refl _⟩

theorem walk (a0 : ByteArray) (w0 : a0.size ≤ maxLen) (w : World) :
    Calls Try.prog 5 #[.string a0] w fun e w' => e = .returned (.bool true) ∧ Grown w w' := by
  unfold maxLen at w0
  by_cases h : (a0.size : Int) ≤ 1048576
  · exact near a0 h w
  · have hz := zz11_any a0 w (by omega)
    rw [show decide ((a0.size : Int) ≤ 1048576) = false by simpa using h] at hz
    have HZ : Hid (Calls Try.prog 11 #[.string a0] w fun e w' => e = .returned (.bool false) ∧ w' = w) := hz
    clear hz
    go_enter Try.func5, Try.ntmps5
    go_wp2_with (go_at_call 11; refine HZ.out.mono ?_; rintro e w' ⟨rfl, rfl⟩)
    go_ret
    exact ⟨rfl, Grown.refl _⟩

/-! ### THE ROW's STEP: WRITTEN OUT: LEAVE IT -/
set_option maxRecDepth 100000 in
theorem lifted (os : Os) (started : os.Started) (H : Type) (enc : TypeId × Value → H) :
    ReturnsInHanded {} Try.checked os 5 .any (Rows.fnReferenceOptionModelSpec.pre6 enc Try.prog Try.f5 Rows.fnReferenceOptionModelRow.domain false) (Rows.fnReferenceOptionModelSpec.post enc Try.prog Try.f5 false true false false) := by
  refine returnsInHanded_of_change (C := Try.checked) own started (by kernel_rfl) Try.func5
    (ChangeSpec.witness6 (enc := enc) (C := Try.checked) false ⟨#[], #[.string ByteArray.empty], []⟩ 8 (by kernel_rfl) (by kernel_rfl) (by kernel_rfl) (by kernel_rfl)) ?_
  intro W base args ds gs before hval0 hW hcnd _
  have hval : ∀ (j : Nat) t v, Try.f5.params[j]? = some t → args[j]? = some v → Value.okWide Try.prog W .any base t v := hval0
  have hW' := hW
  obtain ⟨p, q, hA0, hV, rfl, hfz, hnd⟩ := hW
  have hA : DataW.TrodAll enc Try.prog W 0 (fun _ => true) true Try.f5.params.toList args.toList ds p := hA0
  rw [Try.params5] at hA hval
  obtain ⟨v0, vs0, d0, ds0, p0, q0, hargs, rfl, rfl, h0, r0⟩ := trodAll_cons hA
  obtain ⟨rfl, rfl, rfl⟩ := trodAll_nil r0
  obtain rfl : args = #[v0] := by cases args; simp_all
  obtain ⟨rfl, rfl⟩ := trodVars_none hV
  obtain ⟨a0, rfl, rfl, rfl, w0⟩ := open_string Try.underlying9 (hval 0 9 v0 rfl rfl) h0
  clear hA0 hval0
  simp only [List.append_nil] at hW'
  refine (walk a0 w0 W).mono fun e W' ⟨he, hg⟩ => ?_
  subst he
  exact ⟨_, rfl, post_of_same (pa := []) (pv := []) hW' (fun _ _ _ => (trodAll_cons_mk (shut_bool Try.underlying4 _) trodAll_mk0)) (fun sp _ => (trodAll_cons_mk (shut_string Try.underlying9 w0) trodAll_mk0)) (fun _ _ => rfl) rfl
    (hg.frame _) hg.2.1 (ok_one (by kernel_rfl) rfl (okWide_bool_mk Try.underlying4 _))⟩

theorem over : Rows.fnReferenceOptionModelRow.holds Try.pinned (OpenSpec.ofChange Rows.fnReferenceOptionModelSpec) :=
  OpenClaim.holds_of_wide 5 Try.f5 rfl rfl rfl rfl rfl rfl rfl ⟨rfl, rfl, rfl, rfl, rfl⟩ rfl rfl rfl rfl rfl (by kernel_rfl) Try.func5 (by kernel_rfl)
    (of_decide_eq_true (by kernel_rfl)) (by unfold Func.isWrapper; first | (rw [if_pos (by decide +kernel)]; kernel_rfl) | (rw [if_neg (by decide +kernel)]; exact ⟨rfl, rfl⟩))
    (fun os started H enc _ => lifted os started H enc)

/-- ████ THE STATEMENT ████ -/
theorem proved : Rows.FnReferenceOptionModelSaid :=
  over
#print axioms proved
end Go.Proofs.Qxb6612181a.fnReferenceOptionModel
