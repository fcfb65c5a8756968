/-
  Seat b6605680a: nevModelSseB1 (10) at every event.
-/
import Derived.Test.Qxb6605680aModel
namespace Go.Proofs.Qxb6605680a
open Go.RowKit Go.Shelf

theorem nev_zero (v0 : Option Addr) (cap : Nat) (w : World) :
    Calls Try.prog 10 #[.slice v0 0 cap] w fun e w' => e = .returned (.tuple #[.int .i64 0, .int .i64 0, .int .i64 0, .bool false, .slice none 0 0]) ∧ w' = w := by
  go_enter Try.func10, Try.ntmps10
  go_wp2
  go_loop [2, 3, 4, 5, 6, 7] (fun f s e c j i => f = .int .i64 0 ∧ s = .int .i64 0 ∧ e = .int .i64 0 ∧ c = .bool false ∧ j = .slice none 0 0 ∧ i = .int .i64 0) (fun _ _ _ _ _ _ => 0)
  case atStart => exact ⟨rfl, rfl, rfl, rfl, rfl, rfl⟩
  case round =>
    obtain ⟨rfl, rfl, rfl, rfl, rfl, rfl⟩ := hrel
    go_wp2
    exact bodyPost_ret (v := .tuple #[.int .i64 0, .int .i64 0, .int .i64 0, .bool false, .slice none 0 0]) (by simp [results, Try.results10, go_sem]) rfl ⟨rfl, rfl⟩

theorem nev_any (v0 : Option Addr) (B o cap : Nat) (ev : List UInt8) (w : World) (hcap : ev.length ≤ cap) (hm : cap ≤ 140737488355328) (hv : 0 < ev.length → v0 = some ⟨B, o, none⟩) (hs : Seg w B o ev) :
    Calls Try.prog 10 #[.slice v0 ev.length cap] w fun e w' =>
      (∃ (a : Sp.Acc) (jv : Value), Sp.Fin ev a ∧ e = .returned (.tuple #[.int .i64 (a.fields : Nat), .int .i64 (a.fs : Nat), .int .i64 (a.fe : Nat), .bool a.col, jv]) ∧ w'.ownsRow w.heap.size 5 1 jv a.joined.length (cellsOf a.joined)) ∧ Below w.heap.size w w' := by
  by_cases h0 : 0 < ev.length
  · rw [hv h0]
    exact nev_some B o cap ev w hcap hm h0 hs
  · have hl : ev = [] := List.eq_nil_of_length_eq_zero (by omega)
    subst hl
    refine (nev_zero v0 cap w).mono ?_
    rintro e w' ⟨rfl, rfl⟩
    exact ⟨⟨Sp.acc0, _, Sp.at0 [], rfl, World.ownsRow_nil _ _ _ _⟩, Below.refl _ _⟩

end Go.Proofs.Qxb6605680a
