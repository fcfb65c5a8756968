/-
  Seat b6605439a: THE LAW's SMALL FUNCTIONS: zzb1IsSpace (11), zzb1Printable (12), zzBytes_.. (10).
-/
import Derived.Test.Qxb6605439aDecode
namespace Go.Proofs.Qxb6605439a
open Go.RowKit

/-- it answers true only where p holds -/
def BoolIf (p : Prop) (e : Ending) : Prop := ∃ b, e = .returned (.bool b) ∧ (b = true → p)

theorem space_any (c : UInt8) (w : World) : Calls Try.prog 11 #[.int .u8 (c.toNat : Int)] w fun e w' => BoolIf (sp c) e ∧ w' = w := by
  by_cases h : c.toNat = 32 ∨ c.toNat = 9 ∨ c.toNat = 10 ∨ c.toNat = 13
  · have hs : sp c := by
      unfold sp
      rcases h with h | h | h | h
      · exact .inl (byte_of (k := 32) (by omega))
      · exact .inr (.inl (byte_of (k := 9) (by omega)))
      · exact .inr (.inr (.inl (byte_of (k := 10) (by omega))))
      · exact .inr (.inr (.inr (byte_of (k := 13) (by omega))))
    have HS : Hid (sp c) := hs
    clear h hs
    go_enter Try.func11, Try.ntmps11
    go_wp2
    all_goals go_ret
    all_goals exact ⟨⟨_, rfl, fun _ => HS.out⟩, rfl⟩
  · have n1 : ((c.toNat : Int) == 32) = false := by rw [beq_eq_false_iff_ne]; omega
    have n2 : ((c.toNat : Int) == 9) = false := by rw [beq_eq_false_iff_ne]; omega
    have n3 : ((c.toNat : Int) == 10) = false := by rw [beq_eq_false_iff_ne]; omega
    have n4 : ((c.toNat : Int) == 13) = false := by rw [beq_eq_false_iff_ne]; omega
    clear h
    go_enter Try.func11, Try.ntmps11
    go_wp2
    all_goals go_ret
    all_goals exact ⟨⟨_, rfl, fun h => by simp at h⟩, rfl⟩

theorem print_any (c : UInt8) (w : World) : Calls Try.prog 12 #[.int .u8 (c.toNat : Int)] w fun e w' => BoolIf (32 ≤ c.toNat ∧ c.toNat ≤ 126 ∧ c.toNat ≠ 92) e ∧ w' = w := by
  by_cases h1 : (32 : Int) ≤ (c.toNat : Int)
  · by_cases h2 : (c.toNat : Int) ≤ 126
    · by_cases h3 : c.toNat = 92
      · have n3 : ((c.toNat : Int) == 92) = true := by rw [beq_iff_eq]; omega
        go_enter Try.func12, Try.ntmps12
        go_wp2
        all_goals go_ret
        all_goals exact ⟨⟨_, rfl, fun h => by simp at h⟩, rfl⟩
      · have n3 : ((c.toNat : Int) == 92) = false := by rw [beq_eq_false_iff_ne]; omega
        have H : Hid (32 ≤ c.toNat ∧ c.toNat ≤ 126 ∧ c.toNat ≠ 92) := ⟨by omega, by omega, h3⟩
        clear h3
        go_enter Try.func12, Try.ntmps12
        go_wp2
        all_goals go_ret
        all_goals exact ⟨⟨_, rfl, fun _ => H.out⟩, rfl⟩
    · have n2 : decide ((c.toNat : Int) ≤ 126) = false := by simpa using h2
      go_enter Try.func12, Try.ntmps12
      go_wp2
      all_goals go_ret
      all_goals exact ⟨⟨_, rfl, fun h => by simp at h⟩, rfl⟩
  · have n1 : decide ((32 : Int) ≤ (c.toNat : Int)) = false := by simpa using h1
    go_enter Try.func12, Try.ntmps12
    go_wp2
    all_goals go_ret
    all_goals exact ⟨⟨_, rfl, fun h => by simp at h⟩, rfl⟩

set_option maxHeartbeats 1000000 in
theorem zz10_any (a : Option Addr) (N c B o : Nat) (ss : List ByteArray) (s : ByteArray) (w : World) (hN : Hid (N = ss.length)) (hNm : (N : Int) ≤ 9223372036854775807) (ha : 0 < N → a = some ⟨B, o, none⟩)
    (hcell : ∀ i (hi : i < ss.length), w.cell? ⟨B, o + i, none⟩ = some (.string ss[i])) :
    Calls Try.prog 10 #[.slice a N c, .string s] w fun e w' => BoolIf True e ∧ w' = w := by
  have HC : Hid (∀ i (hi : i < ss.length), w.cell? ⟨B, o + i, none⟩ = some (.string ss[i])) := hcell
  clear hcell
  by_cases h1 : (N : Int) ≤ 1048576
  · go_enter Try.func10, Try.ntmps10
    go_wp2
    go_loop [5, 6] (fun q i => ∃ (k z : Nat), k ≤ N ∧ i = .int .i64 (k : Nat) ∧ q = .int .i64 (z : Nat) ∧ z ≤ 1048576) (fun _ i => N - (intOf i).toNat)
    case atStart => exact ⟨0, N, Nat.zero_le _, rfl, rfl, by omega⟩
    case round =>
      obtain ⟨k, z, hk, rfl, rfl, hz⟩ := hrel
      by_cases hlt : (k : Int) < (N : Int)
      · obtain rfl := ha (by omega)
        have hkl : k < ss.length := by have := hN.out; omega
        have g1 := HC.out k hkl
        obtain ⟨S, hS⟩ : ∃ S, S = ss[k] := ⟨_, rfl⟩
        rw [← hS] at g1
        clear hS hkl
        go_wp2
        · go_ret
          exact ⟨⟨_, rfl, fun _ => trivial⟩, rfl⟩
        · go_ret
          exact ⟨⟨_, rfl, fun _ => trivial⟩, rfl⟩
        · go_round
          case rel => exact ⟨k + 1, z + S.size, by omega, by go_num, by go_num, by omega⟩
          case measure => simp [intOf]; omega
      · go_wp2
        all_goals go_ret
        all_goals exact ⟨⟨_, rfl, fun _ => trivial⟩, rfl⟩
  · go_enter Try.func10, Try.ntmps10
    go_wp2
    go_ret
    exact ⟨⟨_, rfl, fun _ => trivial⟩, rfl⟩

end Go.Proofs.Qxb6605439a
