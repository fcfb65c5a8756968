/-
  Seat b6605680a: THE WALKS OF cloneBytesSseB1 (7), zzBytes_.. (6).
-/
import Derived.Test.Qxb6605680aEvent
namespace Go.Proofs.Qxb6605680a
open Go.RowKit Go.Shelf

theorem make_full (w : World) (c : Nat) (hc : c ≤ 140737488355328) : ∃ C : Array Value, C.size = c ∧ (Instr.makeSlice 22 (.int .i64 (c : Int)) (.int .i64 (c : Int))).run Try.prog w = .ok (.slice (some ⟨w.heap.size, 0, none⟩) c c) (w.alloc (.cells C 5)) := by
  obtain ⟨i0, hi, hz0, hz1, hz2⟩ := info_parts info5
  have := run_make (P := Try.prog) w 22 5 i0 _ Try.underlying22 hi hz0 .i64 .i64 c c (by omega) (by omega) (by rw [hz2]; omega) (by omega)
  simp only [Int.toNat_natCast, hz1, Nat.mul_one] at this
  exact ⟨_, size_madeCells _ _, this⟩

theorem clone_nil (w : World) : Calls Try.prog 7 #[.slice none 0 0] w fun e w' => e = .returned (.slice none 0 0) ∧ w' = w := by
  have hq := eqnil
  go_enter Try.func7, Try.ntmps7
  go_wp2
  go_ret
  exact ⟨rfl, rfl⟩

theorem clone_some (B o c n : Nat) (l : List UInt8) (w : World) (hn : n = l.length) (hm : n ≤ 140737488355328) (hs : Seg w B o l) :
    Calls Try.prog 7 #[.slice (some ⟨B, o, none⟩) n c] w fun e w' => e = .returned (.slice (some ⟨w.heap.size, 0, none⟩) n n) ∧ OwnsAt w' w.heap.size n l ∧ Below w.heap.size w w' := by
  have hq := eqnil
  obtain ⟨C, hC, hmk⟩ := make_full w n hm
  have HN : Hid (n = l.length) := hn
  have HC : Hid (C.size = n) := hC
  have hsz : (Try.prog.info? 5).map (·.size) = some 1 := by kernel_rfl
  have hrow : (w.alloc (.cells C 5)).heap[w.heap.size]? = some (.cells C.toList.toArray 5 (0, 0)) := by
    rw [show C.toList.toArray = C by simp]; exact World.alloc_heap_new w _
  have hb : Below w.heap.size w (w.alloc (.cells C 5)) := (Below.refl _ w).alloc (Nat.le_refl _) _
  have hs1 := hs.alloc (.cells C 5)
  obtain ⟨w2, hcp, HG2, hB2⟩ : ∃ w2, (Builtin.copy_ #[22, 22] 3 #[.slice (some ⟨w.heap.size, 0, none⟩) n n, .slice (some ⟨B, o, none⟩) n c]).run Try.prog (w.alloc (.cells C 5)) = .ok (.int .i64 (n : Int)) w2 ∧
      Hid (w2.heap[w.heap.size]? = some (.cells (splice C.toList 0 (cellsOf l)).toArray 5 (0, 0))) ∧ Below w.heap.size w w2 := by
    have hcl : (cellsOf l).length = n := by rw [cellsOf_length, hn]
    have hr := run_copy_row (P := Try.prog) (w.alloc (.cells C 5)) 22 22 3 5 w.heap.size 0 n n ⟨B, o, none⟩ n c C.toList.toArray 5 (cellsOf l) Try.underlying22 hsz hrow (by rw [hcl]; exact (Nat.min_self n).symm)
      (fun j v hj => by obtain ⟨h1, rfl⟩ := cellsOf_at l j v hj; rw [add_addr]; exact hs1 j h1) (by rw [hcl]; simp [hC]) (cellsOf_one l)
    rw [hcl] at hr
    exact ⟨_, hr, (show _ = _ by simpa [splice, hcl] using setRow_heap (w.alloc (.cells C 5)) w.heap.size _ _ 5 _ hrow), below_setRow hb (Nat.le_refl _) _⟩
  clear hn hC hrow hs1 hb
  go_enter Try.func7, Try.ntmps7
  go_wp2
  go_ret
  refine ⟨rfl, ?_, hB2⟩
  unfold OwnsAt
  rw [← HN.out]
  refine ⟨by rw [cellsOf_length, ← HN.out]; omega, .inr ⟨w.heap.size, n, _, rfl, Nat.le_refl _, HG2.out, Nat.le_refl _, by unfold maxLen; omega, ?_, ?_⟩⟩
  · rw [List.size_toArray, length_splice _ _ _ (by rw [cellsOf_length, ← HN.out]; simp [HC.out])]; simp [HC.out]
  · unfold splice
    simp only [List.take_zero, List.nil_append, Nat.zero_add]
    rw [List.drop_of_length_le (by rw [cellsOf_length, ← HN.out]; simp [HC.out]), List.append_nil, List.take_of_length_le (by rw [cellsOf_length, ← HN.out]; omega)]

theorem zz6_any (v : Option Addr) (n c : Nat) (w : World) : Calls Try.prog 6 #[.slice v n c] w fun e w' => e = .returned (.bool (decide ((n : Int) ≤ 1048576))) ∧ w' = w := by
  by_cases h : (n : Int) ≤ 1048576
  · have hd : decide ((n : Int) ≤ 1048576) = true := by simpa using h
    rw [hd]
    go_enter Try.func6, Try.ntmps6
    go_wp2
    go_ret
    exact ⟨rfl, rfl⟩
  · have hd : decide ((n : Int) ≤ 1048576) = false := by simpa using h
    rw [hd]
    go_enter Try.func6, Try.ntmps6
    go_wp2
    go_ret
    exact ⟨rfl, rfl⟩

end Go.Proofs.Qxb6605680a
