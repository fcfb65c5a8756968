/-
  Seat b6605437a: THE WALKS OF THE LEAVES: zzBytes_.. (14, 17), countDigitBytes (12), allDigitBytes (18).
-/
import Derived.Test.Qxb6605437aChecked
import Derived.Test.Qxb6605437aPlain
import Derived.WalkKit
namespace Go.Proofs.Qxb6605437a
open Go.RowKit

theorem ret_int {k : IntKind} {a b : Int} (h : a = b) : Ending.returned (.int k a) = .returned (.int k b) := by rw [h]
theorem ret_bool {a b : Bool} (h : a = b) : Ending.returned (.bool a) = .returned (.bool b) := by rw [h]

theorem take_snoc (s : ByteArray) (k : Nat) (h : k < s.size) : s.data.toList.take (k + 1) = s.data.toList.take k ++ [s[k]] := by
  rw [List.take_succ_eq_append_getElem (by simpa using h)]; rfl

theorem zz14_yes (s : ByteArray) (w : World) (h : (s.size : Int) ≤ 1048576) :
    Calls Try.prog 14 #[.string s] w fun e w' => e = .returned (.bool true) ∧ w' = w := by
  go_enter Try.func14, Try.ntmps14
  go_wp2
  go_ret
  exact ⟨rfl, rfl⟩

theorem zz14_no (s : ByteArray) (w : World) (h : 1048576 < (s.size : Int)) :
    Calls Try.prog 14 #[.string s] w fun e w' => e = .returned (.bool false) ∧ w' = w := by
  go_enter Try.func14, Try.ntmps14
  go_wp2
  go_ret
  exact ⟨rfl, rfl⟩

set_option maxHeartbeats 400000 in
theorem cnt_any (s : ByteArray) (w : World) (hs : s.size ≤ maxLen) :
    Calls Try.prog 12 #[.string s] w fun e w' => e = .returned (.int .i64 (Pl.cnt s.data.toList : Nat)) ∧ w' = w := by
  unfold maxLen at hs
  go_enter Try.func12, Try.ntmps12
  go_wp2
  go_loop [3, 4] (fun n i => ∃ k : Nat, k ≤ s.size ∧ i = .int .i64 k ∧ n = .int .i64 (Pl.cnt (s.data.toList.take k) : Nat)) (fun _ i => s.size - (intOf i).toNat)
  case atStart => exact ⟨0, Nat.zero_le _, rfl, rfl⟩
  case round =>
    obtain ⟨k, hk, rfl, rfl⟩ := hrel
    have hd := Pl.cnt_le (s.data.toList.take k)
    have hl : (s.data.toList.take k).length ≤ k := List.length_take_le _ _
    by_cases hlt : k < s.size
    · have hsn := Pl.cnt_snoc (s.data.toList.take k) s[k]
      have hts := take_snoc s k hlt
      have HS : Hid (Pl.cnt (s.data.toList.take (k + 1)) = Pl.cnt (s.data.toList.take k) + if 48 ≤ (s[k].toNat : Int) ∧ (s[k].toNat : Int) ≤ 57 then 1 else 0) := by unfold Hid; rw [hts]; simpa [Pl.dig] using hsn
      clear hsn hts
      go_wp2
      all_goals
        go_round
        case rel => exact ⟨k + 1, by omega, by go_num, by rw [HS.out]; first | (rw [if_pos ⟨‹_›, ‹_›⟩]; go_num) | (rw [if_neg (by omega)]; go_num)⟩
        case measure => simp [intOf]; omega
    · go_wp2
      go_ret
      exact ⟨ret_int (by rw [List.take_of_length_le (by simp; omega)]), rfl⟩

theorem all_zero (s : ByteArray) (w : World) (h0 : (s.size : Int) ≤ 0) :
    Calls Try.prog 18 #[.string s] w fun e w' => e = .returned (.bool (Pl.digs s.data.toList)) ∧ w' = w := by
  have hd : Pl.digs s.data.toList = false := by
    rw [Pl.digs_cnt]
    have : s.data.toList.length = 0 := by simpa using (show s.size = 0 by omega)
    simp [this]
  rw [hd]
  go_enter Try.func18, Try.ntmps18
  go_wp2
  go_ret
  exact ⟨rfl, rfl⟩

theorem all_some (s : ByteArray) (w : World) (hs : s.size ≤ maxLen) (h0 : 0 < (s.size : Int)) :
    Calls Try.prog 18 #[.string s] w fun e w' => e = .returned (.bool (Pl.digs s.data.toList)) ∧ w' = w := by
  have hd : Pl.digs s.data.toList = (((Pl.cnt s.data.toList : Nat) : Int) == (s.size : Int)) := by
    rw [Pl.digs_cnt]
    have : s.data.toList.length = s.size := by simp
    rw [this, Bool.eq_iff_iff]
    simp
    omega
  rw [hd]
  go_enter Try.func18, Try.ntmps18
  go_wp2_with (go_at_call 12; refine (cnt_any _ _ hs).mono ?_; rintro e w' ⟨rfl, rfl⟩)
  go_ret
  exact ⟨rfl, rfl⟩

theorem all_any (s : ByteArray) (w : World) (hs : s.size ≤ maxLen) :
    Calls Try.prog 18 #[.string s] w fun e w' => e = .returned (.bool (Pl.digs s.data.toList)) ∧ w' = w := by
  by_cases h : (s.size : Int) ≤ 0
  · exact all_zero s w h
  · exact all_some s w hs (by omega)

end Go.Proofs.Qxb6605437a
