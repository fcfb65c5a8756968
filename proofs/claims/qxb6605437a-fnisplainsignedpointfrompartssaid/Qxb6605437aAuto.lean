/-
  Seat b6605437a: THE WALK OF plainAutomaton (16).
-/
import Derived.Test.Qxb6605437aLeafs
namespace Go.Proofs.Qxb6605437a
open Go.RowKit

theorem auto_step {s : ByteArray} {k st st' : Nat} (hlt : k < s.size) (H : Hid (Pl.runA st (s.data.toList.drop k) = Pl.runA 0 s.data.toList)) (hs : Pl.step st s[k] = some st') :
    Hid (Pl.runA st' (s.data.toList.drop (k + 1)) = Pl.runA 0 s.data.toList) := by
  have := Pl.runA_snoc_step s.data.toList k st s[k] (by rw [List.getElem?_eq_getElem (by simpa using hlt)]; rfl)
  rw [hs] at this
  exact this.symm.trans H.out

theorem auto_none {s : ByteArray} {k st : Nat} (hlt : k < s.size) (H : Hid (Pl.runA st (s.data.toList.drop k) = Pl.runA 0 s.data.toList)) (hs : Pl.step st s[k] = none) :
    Pl.runA 0 s.data.toList = false := by
  have := Pl.runA_snoc_step s.data.toList k st s[k] (by rw [List.getElem?_eq_getElem (by simpa using hlt)]; rfl)
  rw [hs] at this
  exact H.out.symm.trans this

theorem auto_end {s : ByteArray} {k st : Nat} (hlt : ¬ k < s.size) (H : Hid (Pl.runA st (s.data.toList.drop k) = Pl.runA 0 s.data.toList)) :
    Pl.runA 0 s.data.toList = (st == 2 || st == 4) := by
  rw [List.drop_of_length_le (by simp; omega)] at H
  exact H.out.symm

set_option maxHeartbeats 1000000 in
theorem auto_any (s : ByteArray) (w : World) (hs : s.size ≤ maxLen) :
    Calls Try.prog 16 #[.string s] w fun e w' => e = .returned (.bool (Pl.runA 0 s.data.toList)) ∧ w' = w := by
  unfold maxLen at hs
  go_enter Try.func16, Try.ntmps16
  go_wp2
  go_loop [3, 4] (fun n i => ∃ k st : Nat, k ≤ s.size ∧ st ≤ 4 ∧ i = .int .i64 k ∧ n = .int .i64 st ∧ Hid (Pl.runA st (s.data.toList.drop k) = Pl.runA 0 s.data.toList)) (fun _ i => s.size - (intOf i).toNat)
  case atStart => exact ⟨0, 0, Nat.zero_le _, by omega, rfl, rfl, rfl⟩
  case round =>
    obtain ⟨k, st, hk, hst, rfl, rfl, H⟩ := hrel
    by_cases hlt : k < s.size
    · go_wp2
      all_goals first
        | (go_round
           case rel =>
            simp only [beq_iff_eq, beq_eq_false_iff_ne, ne_eq, Bool.not_eq_true', decide_eq_false_iff_not, Bool.not_eq_false', decide_eq_true_eq] at *
            first
              | refine ⟨k + 1, 1, by omega, by omega, by go_num, rfl, auto_step hlt H ?_⟩
              | refine ⟨k + 1, 2, by omega, by omega, by go_num, rfl, auto_step hlt H ?_⟩
              | refine ⟨k + 1, 3, by omega, by omega, by go_num, rfl, auto_step hlt H ?_⟩
              | refine ⟨k + 1, 4, by omega, by omega, by go_num, rfl, auto_step hlt H ?_⟩
              | refine ⟨k + 1, st, by omega, by omega, by go_num, rfl, auto_step hlt H ?_⟩
            rw [Pl.step_eq st s[k] _ rfl]
            repeat (first | rw [if_pos (by omega)] | rw [if_neg (by omega)])
            try (congr 1; omega)
           case measure => simp [intOf]; omega)
        | (simp only [beq_iff_eq, beq_eq_false_iff_ne, ne_eq, Bool.not_eq_true', decide_eq_false_iff_not] at *
           have hf := auto_none hlt H (by
            rw [Pl.step_eq st s[k] _ rfl]
            repeat (first | rw [if_pos (by omega)] | rw [if_neg (by omega)]))
           go_ret
           exact ⟨ret_bool hf.symm, rfl⟩)
    · have hf := auto_end hlt H
      by_cases h2 : st = 2
      · subst h2
        have HF : Hid (Pl.runA 0 s.data.toList = true) := hf
        clear hf
        go_wp2
        go_ret
        exact ⟨ret_bool HF.out.symm, rfl⟩
      · have h2' : ((st : Int) == 2) = false := beq_eq_false_iff_ne.2 (by omega)
        have h4 : (st == 2 || st == 4) = ((st : Int) == 4) := by
          rw [Bool.eq_iff_iff]; simp; omega
        rw [h4] at hf
        have HF : Hid (Pl.runA 0 s.data.toList = ((st : Int) == 4)) := hf
        clear hf h4
        go_wp2
        go_ret
        exact ⟨ret_bool HF.out.symm, rfl⟩

end Go.Proofs.Qxb6605437a
