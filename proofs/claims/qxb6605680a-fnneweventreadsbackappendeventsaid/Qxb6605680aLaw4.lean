/-
  Seat b6605680a: THE WALK OF THE LAW FnNewEventReadsBackAppendEvent (4): its guards.
-/
import Derived.Test.Qxb6605680aRowIn
namespace Go.Proofs.Qxb6605680a
open Go.RowKit Go.Shelf

theorem zz13_any (a b : Option Addr) (n c m d : Nat) (e : ByteArray) (w : World) (hn : n ≤ 9223372036854775807) (hm : m ≤ 9223372036854775807) (he : e.size ≤ 9223372036854775807) :
    Calls Try.prog 13 #[.slice a n c, .string e, .slice b m d] w fun r w' => r = .returned (.bool (decide ((n : Int) + e.size + m ≤ 1048576))) ∧ w' = w := by
  by_cases h1 : (n : Int) ≤ 1048576
  · by_cases h2 : (e.size : Int) ≤ 1048576
    · by_cases h3 : (n : Int) + e.size ≤ 1048576
      · by_cases h4 : (m : Int) ≤ 1048576
        · by_cases h5 : (n : Int) + e.size + m ≤ 1048576
          · have hd : decide ((n : Int) + e.size + m ≤ 1048576) = true := by simpa using h5
            rw [hd]
            go_enter Try.func13, Try.ntmps13
            go_wp2
            go_ret
            exact ⟨rfl, rfl⟩
          · have hd : decide ((n : Int) + e.size + m ≤ 1048576) = false := by simpa using h5
            rw [hd]
            go_enter Try.func13, Try.ntmps13
            go_wp2
            go_ret
            exact ⟨rfl, rfl⟩
        · have hd : decide ((n : Int) + e.size + m ≤ 1048576) = false := by simp; omega
          rw [hd]
          go_enter Try.func13, Try.ntmps13
          go_wp2
          go_ret
          exact ⟨rfl, rfl⟩
      · have hd : decide ((n : Int) + e.size + m ≤ 1048576) = false := by simp; omega
        rw [hd]
        go_enter Try.func13, Try.ntmps13
        go_wp2
        go_ret
        exact ⟨rfl, rfl⟩
    · have hd : decide ((n : Int) + e.size + m ≤ 1048576) = false := by simp; omega
      rw [hd]
      go_enter Try.func13, Try.ntmps13
      go_wp2
      go_ret
      exact ⟨rfl, rfl⟩
  · have hd : decide ((n : Int) + e.size + m ≤ 1048576) = false := by simp; omega
    rw [hd]
    go_enter Try.func13, Try.ntmps13
    go_wp2
    go_ret
    exact ⟨rfl, rfl⟩

theorem law4_far (a b : Option Addr) (n c m d : Nat) (e : ByteArray) (w : World) (hn : n ≤ 9223372036854775807) (hm : m ≤ 9223372036854775807) (he : e.size ≤ 9223372036854775807) (h : 1048576 < (n : Int) + e.size + m) :
    Calls Try.prog 4 #[.slice a n c, .string e, .slice b m d] w fun r w' => r = .returned (.bool true) ∧ Below w.heap.size w w' := by
  have hz := fun w => zz13_any a b n c m d e w hn hm he
  simp only [show decide ((n : Int) + e.size + m ≤ 1048576) = false by simp; omega] at hz
  have HZ : Hid (∀ w, Calls Try.prog 13 #[.slice a n c, .string e, .slice b m d] w fun r w' => r = .returned (.bool false) ∧ w' = w) := hz
  clear hz
  go_enter Try.func4, Try.ntmps4
  go_wp2_with (go_at_call 13; refine (HZ.out _).mono ?_; rintro e w' ⟨rfl, rfl⟩)
  go_ret
  exact ⟨rfl, Below.refl _ _⟩

end Go.Proofs.Qxb6605680a
