/-
  Seat b6605680a: A []byte THAT CAME IN: its bytes as a list; cloneBytesSseB1 (7) at it.
-/
import Derived.Test.Qxb6605680aClone
namespace Go.Proofs.Qxb6605680a
open Go.RowKit Go.Shelf

/-- WHAT THE WALK IS TOLD OF A SLICE OF INTEGERS THAT CAME IN (the shells' own words). -/
def IsRow (k : IntKind) (w : World) (a : Option Addr) (len cap : Nat) (zs : List Int) : Prop :=
  (a = none ∧ len = 0 ∧ cap = 0 ∧ zs = []) ∨
  ∃ x, a = some x ∧ len ≤ cap ∧ cap ≤ maxLen ∧ zs.length = cap ∧ (∀ i, i < zs.length → w.cell? (x.add i) = some (.int k (zs.getD i 0))) ∧ ∀ n ∈ zs, (Lit.int k n).wf = true

/-- the bytes of a row -/
def bytesIn (zs : List Int) (len : Nat) : List UInt8 := (zs.take len).map fun z => z.toNat.toUInt8

theorem bytesIn_length (zs : List Int) (len : Nat) (h : len ≤ zs.length) : (bytesIn zs len).length = len := by
  unfold bytesIn; rw [List.length_map, List.length_take]; omega

theorem wf_bounds {n : Int} (h : (Lit.int .u8 n).wf = true) : 0 ≤ n ∧ n ≤ 255 := by
  simp [Lit.wf, IntKind.min, IntKind.max, IntKind.signed, IntKind.bits] at h
  omega

theorem bytesIn_bt (zs : List Int) (len i : Nat) (h : len ≤ zs.length) (hi : i < len) (hw : ∀ n ∈ zs, (Lit.int .u8 n).wf = true) : Sp.bt (bytesIn zs len) i = zs.getD i 0 := by
  have hz : i < zs.length := by omega
  have hb := wf_bounds (hw zs[i] (List.getElem_mem hz))
  unfold Sp.bt bytesIn
  simp only [List.getElem?_map, List.getElem?_take, if_pos hi, List.getElem?_eq_getElem hz, Option.map_some, Option.getD_some, List.getD, Nat.toUInt8, UInt8.toNat_ofNat']
  omega

theorem isRow_cases {w : World} {a : Option Addr} {len cap : Nat} {zs : List Int} (h : IsRow .u8 w a len cap zs) :
    (a = none ∧ len = 0 ∧ cap = 0) ∨ ∃ x l, a = some x ∧ len = l.length ∧ len ≤ cap ∧ cap ≤ maxLen ∧ ∀ i, i < l.length → w.cell? (x.add i) = some (.int .u8 (Sp.bt l i)) := by
  rcases h with ⟨h1, h2, h3, _⟩ | ⟨x, rfl, h1, h2, h3, h4, h5⟩
  · exact .inl ⟨h1, h2, h3⟩
  · have hl := bytesIn_length zs len (by omega)
    refine .inr ⟨x, bytesIn zs len, rfl, hl.symm, h1, h2, fun i hi => ?_⟩
    rw [hl] at hi
    rw [h4 i (by omega), bytesIn_bt zs len i (by omega) hi h5]

theorem clone_at (x : Addr) (c n : Nat) (l : List UInt8) (w : World) (hn : n = l.length) (hm : n ≤ 140737488355328) (hs : ∀ i, i < l.length → w.cell? (x.add i) = some (.int .u8 (Sp.bt l i))) :
    Calls Try.prog 7 #[.slice (some x) n c] w fun e w' => e = .returned (.slice (some ⟨w.heap.size, 0, none⟩) n n) ∧ OwnsAt w' w.heap.size n l ∧ Below w.heap.size w w' := by
  have hq := eqnil
  obtain ⟨C, hC, hmk⟩ := make_full w n hm
  have HN : Hid (n = l.length) := hn
  have HC : Hid (C.size = n) := hC
  have hsz : (Try.prog.info? 5).map (·.size) = some 1 := by kernel_rfl
  have hrow : (w.alloc (.cells C 5)).heap[w.heap.size]? = some (.cells C.toList.toArray 5 (0, 0)) := by
    rw [show C.toList.toArray = C by simp]; exact World.alloc_heap_new w _
  have hb : Below w.heap.size w (w.alloc (.cells C 5)) := (Below.refl _ w).alloc (Nat.le_refl _) _
  obtain ⟨w2, hcp, HG2, hB2⟩ : ∃ w2, (Builtin.copy_ #[22, 22] 3 #[.slice (some ⟨w.heap.size, 0, none⟩) n n, .slice (some x) n c]).run Try.prog (w.alloc (.cells C 5)) = .ok (.int .i64 (n : Int)) w2 ∧
      Hid (w2.heap[w.heap.size]? = some (.cells (splice C.toList 0 (cellsOf l)).toArray 5 (0, 0))) ∧ Below w.heap.size w w2 := by
    have hcl : (cellsOf l).length = n := by rw [cellsOf_length, hn]
    have hr := run_copy_row (P := Try.prog) (w.alloc (.cells C 5)) 22 22 3 5 w.heap.size 0 n n x n c C.toList.toArray 5 (cellsOf l) Try.underlying22 hsz hrow (by rw [hcl]; exact (Nat.min_self n).symm)
      (fun j v hj => by obtain ⟨h1, rfl⟩ := cellsOf_at l j v hj; exact Lib.cell?_alloc_marked _ (hs j h1)) (by rw [hcl]; simp [hC]) (cellsOf_one l)
    rw [hcl] at hr
    exact ⟨_, hr, (show _ = _ by simpa [splice, hcl] using setRow_heap (w.alloc (.cells C 5)) w.heap.size _ _ 5 _ hrow), below_setRow hb (Nat.le_refl _) _⟩
  clear hn hC hrow hb hs
  go_enter Try.func7, Try.ntmps7
  go_wp2
  go_ret
  refine ⟨rfl, ?_, hB2⟩
  unfold OwnsAt
  rw [← HN.out]
  refine ⟨by rw [cellsOf_length, ← HN.out]; omega, .inr ⟨w.heap.size, n, _, rfl, Nat.le_refl _, HG2.out, Nat.le_refl _, by unfold maxLen; omega, ?_, ?_⟩⟩
  · rw [List.size_toArray, length_splice _ _ _ (by rw [cellsOf_length, ← HN.out]; simp [HC.out])]; simp [HC.out]
  · unfold splice
    simp only [List.take_zero, List.nil_append, Nat.zero_add]
    rw [List.drop_of_length_le (by rw [cellsOf_length, ← HN.out]; simp [HC.out]), List.append_nil, List.take_of_length_le (by rw [cellsOf_length, ← HN.out]; omega)]

end Go.Proofs.Qxb6605680a
