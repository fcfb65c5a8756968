/-
  Seat b6612181a: THE WALKS OF referenceOption (16) AND ITS LIBRARY, holdsN (14), zzBytes_.. (11, 13).
-/
import Derived.Test.Qxb6612181aProg
import Derived.Test.Qxb6612181aChecked
import Derived.WalkKit
import Derived.ProofKit
import Derived.Below
import Derived.RegionTactic
import Derived.Lib.Strings
import Derived.Lib.Bytealg
namespace Go.Proofs.Qxb6612181a
open Go.RowKit

/-- 'strings.HasPrefix' -/
def hp (s p : ByteArray) : Bool := decide ((p.size : Int) ≤ (s.size : Int)) && ((s.extract 0 p.size).toList == p.toList)

theorem prefix20 (s p : ByteArray) (w : World) : Calls Try.prog 20 #[.string s, .string p] w fun e w' => e = .returned (.bool (hp s p)) ∧ w' = w := by
  by_cases h1 : (p.size : Int) ≤ (s.size : Int)
  · have H : Hid (hp s p = ((s.extract 0 p.size).toList == p.toList)) := by unfold Hid hp; simp [h1]
    go_enter Try.func20, Try.ntmps20
    go_wp2
    go_ret
    exact ⟨by rw [H.out]; rfl, rfl⟩
  · have H : Hid (hp s p = false) := by unfold Hid hp; simp [h1]
    go_enter Try.func20, Try.ntmps20
    go_wp2
    go_ret
    exact ⟨by rw [H.out]; rfl, rfl⟩

theorem prefix17 (s p : ByteArray) (w : World) : Calls Try.prog 17 #[.string s, .string p] w fun e w' => e = .returned (.bool (hp s p)) ∧ w' = w := by
  go_enter Try.func17, Try.ntmps17
  go_wp2_with (go_at_call 20; refine (prefix20 s p _).mono ?_; rintro e w' ⟨rfl, rfl⟩)
  go_ret
  exact ⟨rfl, rfl⟩

theorem hp_one (s : ByteArray) (c : UInt8) : hp s ⟨#[c]⟩ = decide (s.data.toList.head? = some c) := by
  unfold hp
  rw [Lib.extract_toList, Lib.toList_data]
  show (decide ((1 : Int) ≤ (s.size : Int)) && ((List.take 1 (List.drop 0 s.data.toList)) == [c])) = _
  have hl : s.data.toList.length = s.size := by simp
  cases h : s.data.toList with
  | nil => simp
  | cons a l =>
    rw [h] at hl
    simp at hl
    rw [Bool.eq_iff_iff]
    simp
    omega

set_option maxHeartbeats 1000000 in
theorem indexByte_any (s : ByteArray) (c : Int) (w : World) :
    Calls Try.prog 25 #[.string s, .int .u8 c] w fun e w' => e = .returned (.int .i64 (Lib.indexByte s.data.toList c.toNat.toUInt8)) ∧ w' = w := by
  go_enter Try.func25, Try.ntmps25
  go_wp2
  rw [run_callFunc_extern Try.func29 (by kernel_rfl) (by kernel_rfl) (by kernel_rfl) (e := Extern.BytealgIndexByte.indexByte) (by kernel_rfl), Lib.run_indexByteString]
  simp only [Result.andThen]
  rw [Oper.upon_value]
  go_wp2
  go_ret
  exact ⟨rfl, rfl⟩

set_option maxHeartbeats 1000000 in
theorem index24 (s : ByteArray) (w : World) :
    Calls Try.prog 24 #[.string s, .string ⟨#[110]⟩] w fun e w' => e = .returned (.int .i64 (Lib.indexByte s.data.toList 110)) ∧ w' = w := by
  go_enter Try.func24, Try.ntmps24
  go_wp2_with (go_at_call 25; refine (indexByte_any _ _ _).mono ?_; rintro e w' ⟨rfl, rfl⟩)
  · have h : ([110] == s.toList) = true := by assumption
    go_ret
    refine ⟨?_, rfl⟩
    have e : s.data.toList = [110] := by rw [← Lib.toList_data]; exact (beq_iff_eq.1 h).symm
    rw [e]
    simp [Lib.indexByte]
  · go_ret
    exact ⟨rfl, rfl⟩

theorem index22 (s : ByteArray) (w : World) :
    Calls Try.prog 22 #[.string s, .string ⟨#[110]⟩] w fun e w' => e = .returned (.int .i64 (Lib.indexByte s.data.toList 110)) ∧ w' = w := by
  go_enter Try.func22, Try.ntmps22
  go_wp2_with (go_at_call 24; refine (index24 _ _).mono ?_; rintro e w' ⟨rfl, rfl⟩)
  go_ret
  exact ⟨rfl, rfl⟩

theorem index_mem (l : List UInt8) (c : UInt8) : (0 ≤ Lib.indexByte l c) ↔ c ∈ l := by
  induction l with
  | nil => simp [Lib.indexByte]
  | cons b l ih =>
    have hge := Lib.indexByte_ge l c
    unfold Lib.indexByte
    by_cases hb : b = c
    · simp [hb]
    · rw [if_neg (by simpa using hb)]
      have hc : c ∈ b :: l ↔ c ∈ l := by simp [Ne.symm hb]
      rw [hc, ← ih]
      by_cases h1 : Lib.indexByte l c = -1
      · rw [h1]; simp
      · rw [if_neg (by simpa using h1)]; omega

theorem contains_any (s : ByteArray) (w : World) :
    Calls Try.prog 19 #[.string s, .string ⟨#[110]⟩] w fun e w' => e = .returned (.bool (decide (110 ∈ s.data.toList))) ∧ w' = w := by
  have H : Hid (decide (110 ∈ s.data.toList) = decide (0 ≤ Lib.indexByte s.data.toList 110)) := by
    unfold Hid; rw [decide_eq_decide]; exact (index_mem _ _).symm
  rw [H.out]
  clear H
  go_enter Try.func19, Try.ntmps19
  go_wp2_with (go_at_call 22; refine (index22 _ _).mono ?_; rintro e w' ⟨rfl, rfl⟩)
  go_ret
  exact ⟨rfl, rfl⟩

/-- referenceOption, in plain words -/
def ro (l : List UInt8) : Bool := decide (l.head? = some 45) && decide (110 ∈ l)

theorem ref16 (s : ByteArray) (w : World) : Calls Try.prog 16 #[.string s] w fun e w' => e = .returned (.bool (ro s.data.toList)) ∧ w' = w := by
  have HP : Hid (∀ w, Calls Try.prog 17 #[.string s, .string ⟨#[45]⟩] w fun e w' => e = .returned (.bool (decide (s.data.toList.head? = some 45))) ∧ w' = w) := fun w => by rw [← hp_one]; exact prefix17 s _ w
  have HC : Hid (∀ w, Calls Try.prog 19 #[.string s, .string ⟨#[110]⟩] w fun e w' => e = .returned (.bool (decide (110 ∈ s.data.toList))) ∧ w' = w) := fun w => contains_any s w
  unfold ro
  generalize decide (s.data.toList.head? = some 45) = b1 at *
  generalize decide (110 ∈ s.data.toList) = b2 at *
  cases b1
  all_goals
    go_enter Try.func16, Try.ntmps16
    go_wp2_with (first | (go_at_call 17; refine (HP.out _).mono ?_; rintro e w' ⟨rfl, rfl⟩) | (go_at_call 19; refine (HC.out _).mono ?_; rintro e w' ⟨rfl, rfl⟩))
    go_ret
    exact ⟨rfl, rfl⟩

theorem ref12 (s : ByteArray) (w : World) : Calls Try.prog 12 #[.string s] w fun e w' => e = .returned (.bool (ro s.data.toList)) ∧ w' = w := by
  have HR : Hid (∀ w, Calls Try.prog 16 #[.string s] w fun e w' => e = .returned (.bool (ro s.data.toList)) ∧ w' = w) := fun w => ref16 s w
  generalize ro s.data.toList = b at *
  go_enter Try.func12, Try.ntmps12
  go_wp2_with (go_at_call 16; refine (HR.out _).mono ?_; rintro e w' ⟨rfl, rfl⟩)
  go_ret
  exact ⟨rfl, rfl⟩

theorem zz11_any (s : ByteArray) (w : World) (hs : s.size ≤ 9223372036854775807) : Calls Try.prog 11 #[.string s] w fun e w' => e = .returned (.bool (decide ((s.size : Int) ≤ 1048576))) ∧ w' = w := by
  by_cases h : (s.size : Int) ≤ 1048576
  · rw [show decide ((s.size : Int) ≤ 1048576) = true by simpa using h]
    go_enter Try.func11, Try.ntmps11
    go_wp2
    go_ret
    exact ⟨rfl, rfl⟩
  · rw [show decide ((s.size : Int) ≤ 1048576) = false by simpa using h]
    go_enter Try.func11, Try.ntmps11
    go_wp2
    go_ret
    exact ⟨rfl, rfl⟩

/-- it answers -/
def AnyB (e : Ending) : Prop := ∃ b, e = .returned (.bool b)

theorem zz13_any (s t : ByteArray) (w : World) (hs : s.size ≤ 9223372036854775807) (ht : t.size ≤ 9223372036854775807) : Calls Try.prog 13 #[.string s, .string t] w fun e w' => AnyB e ∧ w' = w := by
  by_cases h1 : (s.size : Int) ≤ 1048576
  · by_cases h2 : (t.size : Int) ≤ 1048576
    · go_enter Try.func13, Try.ntmps13
      go_wp2
      all_goals go_ret
      all_goals exact ⟨⟨_, rfl⟩, rfl⟩
    · go_enter Try.func13, Try.ntmps13
      go_wp2
      go_ret
      exact ⟨⟨_, rfl⟩, rfl⟩
  · go_enter Try.func13, Try.ntmps13
    go_wp2
    go_ret
    exact ⟨⟨_, rfl⟩, rfl⟩

theorem at_mem {s : ByteArray} {k : Nat} (h : k < s.size) (e : ((s[k].toNat : Int) == 110) = true) : 110 ∈ s.data.toList := by
  have hl : k < s.data.toList.length := by simpa using h
  have e2 : s.data.toList[k] = 110 := by
    rw [beq_iff_eq] at e
    have : s[k].toNat = 110 := by omega
    have e3 : s[k] = 110 := by rw [← UInt8.toNat_inj, this]; rfl
    rw [Array.getElem_toList]; exact e3
  rw [← e2]; exact List.getElem_mem hl
theorem not_mem {s : ByteArray} (h : ∀ k (hk : k < s.size), ((s[k].toNat : Int) == 110) = false) : ¬ 110 ∈ s.data.toList := by
  intro hm
  obtain ⟨k, hk, e⟩ := List.getElem_of_mem hm
  have hk' : k < s.size := by simpa using hk
  have := h k hk'
  rw [beq_eq_false_iff_ne] at this
  have e3 : s[k] = 110 := by rw [Array.getElem_toList] at e; exact e
  rw [e3] at this
  exact this rfl

theorem holds_any (s : ByteArray) (w : World) (hs : s.size ≤ 9223372036854775806) : Calls Try.prog 14 #[.string s] w fun e w' => e = .returned (.bool (decide (110 ∈ s.data.toList))) ∧ w' = w := by
  obtain ⟨b, HB⟩ : ∃ b, Hid (decide (110 ∈ s.data.toList) = b) := ⟨_, rfl⟩
  rw [HB.out]
  go_enter Try.func14, Try.ntmps14
  go_wp2
  go_loop [3] (fun i => ∃ k : Nat, k ≤ s.size ∧ i = .int .i64 (k : Nat) ∧ Hid (∀ x (hx : x < s.size), x < k → ((s[x].toNat : Int) == 110) = false)) (fun i => s.size - (intOf i).toNat)
  case atStart => exact ⟨0, Nat.zero_le _, rfl, fun x _ hx => by omega⟩
  case round =>
    obtain ⟨k, hk, rfl, H⟩ := hrel
    by_cases hlt : k < s.size
    · by_cases h10 : ((s[k].toNat : Int) == 110) = true
      · have HM : Hid (b = true) := by rw [← HB.out]; simpa [Hid] using at_mem hlt h10
        go_wp2
        go_ret
        exact ⟨by rw [HM.out]; rfl, rfl⟩
      · have h10' : ((s[k].toNat : Int) == 110) = false := by simpa using h10
        have H2 : Hid (∀ x (hx : x < s.size), x < k + 1 → ((s[x].toNat : Int) == 110) = false) := by
          intro x hx h
          by_cases hxk : x < k
          · exact H.out x hx hxk
          · obtain rfl : x = k := by omega
            exact h10'
        clear h10 H
        go_wp2
        go_round
        case rel => exact ⟨k + 1, by omega, by go_num, H2⟩
        case measure => simp [intOf]; omega
    · have HM : Hid (b = false) := by
        rw [← HB.out]
        simpa [Hid] using not_mem (fun x hx => H.out x hx (by omega))
      clear H
      go_wp2
      go_ret
      exact ⟨by rw [HM.out]; rfl, rfl⟩

end Go.Proofs.Qxb6612181a
