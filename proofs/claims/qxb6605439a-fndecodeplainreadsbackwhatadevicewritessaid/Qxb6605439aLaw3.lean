/-
  Seat b6605439a: THE LAW (4) BEHIND ITS FIRST GUARDS: arguments that are too long.
-/
import Derived.Test.Qxb6605439aLaw
namespace Go.Proofs.Qxb6605439a
open Go.RowKit

set_option maxRecDepth 100000 in
set_option maxHeartbeats 2000000 in
theorem law_far (a : Option Addr) (N c B o : Nat) (ss : List ByteArray) (ws : ByteArray) (w : World) (hN : Hid (N = ss.length)) (hNm : (N : Int) ≤ 9223372036854775807) (hwm : (ws.size : Int) ≤ 9223372036854775807) (ha : 0 < N → a = some ⟨B, o, none⟩)
    (hcell : ∀ i (hi : i < ss.length), w.cell? ⟨B, o + i, none⟩ = some (.string ss[i])) (h : ¬ ((N : Int) ≤ 65536 ∧ (ws.size : Int) ≤ 65536 ∧ (ws.size : Int) + 16 * (N : Int) ≤ 1048576)) :
    Calls Try.prog 4 #[.slice a N c, .string ws] w fun e w' => e = .returned (.bool true) ∧ Below w.heap.size w w' := by
  have HZ : Hid (Calls Try.prog 10 #[.slice a N c, .string ws] w fun e w' => BoolIf True e ∧ w' = w) := zz10_any a N c B o ss ws w hN hNm ha hcell
  clear hcell ha
  by_cases h1 : (N : Int) ≤ 65536
  · by_cases h2 : (ws.size : Int) ≤ 65536
    · have h3 : ¬ (ws.size : Int) + 16 * (N : Int) ≤ 1048576 := fun h3 => h ⟨h1, h2, h3⟩
      clear h
      go_enter Try.func4, Try.ntmps4
      go_wp2_with fail
      refine HZ.out.mono ?_
      rintro r w' ⟨⟨b, rfl, _⟩, rfl⟩
      cases b
      all_goals
        go_wp2
        go_ret
        exact ⟨rfl, Below.refl _ _⟩
    · clear h
      have h2' : decide (65536 < (ws.size : Int)) = true := by simp; omega
      go_enter Try.func4, Try.ntmps4
      go_wp2_with fail
      refine HZ.out.mono ?_
      rintro r w' ⟨⟨b, rfl, _⟩, rfl⟩
      cases b
      all_goals
        go_wp2
        go_ret
        exact ⟨rfl, Below.refl _ _⟩
  · clear h
    go_enter Try.func4, Try.ntmps4
    go_wp2_with fail
    refine HZ.out.mono ?_
    rintro r w' ⟨⟨b, rfl, _⟩, rfl⟩
    cases b
    all_goals
      go_wp2
      go_ret
      exact ⟨rfl, Below.refl _ _⟩

end Go.Proofs.Qxb6605439a
