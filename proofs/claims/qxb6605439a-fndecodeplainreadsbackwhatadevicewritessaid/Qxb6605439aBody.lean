/-
  Seat b6605439a: WHAT THE LAW WRITES: the clone of the addresses, the body byte by byte.
-/
import Derived.Test.Qxb6605439aLaw
import Derived.Laws.CopyRow
import Derived.Laws.CopyOwn
import Derived.Laws.Tables
namespace Go.Proofs.Qxb6605439a
open Go.RowKit

theorem info5 : (Try.prog.info? 5).map (fun i => (i.zero, i.size, i.bytes)) = some (some (.int .u8 0), 1, 1) := by kernel_rfl

/-- bytes as cells -/
def cellsOf (l : List UInt8) : List Value := l.map fun b => Value.int .u8 (b.toNat : Int)
theorem cellsOf_length (l : List UInt8) : (cellsOf l).length = l.length := List.length_map _
theorem cellsOf_append (a b : List UInt8) : cellsOf (a ++ b) = cellsOf a ++ cellsOf b := List.map_append
theorem strCells_eq (t : ByteArray) : Lib.strCells t = cellsOf t.data.toList := rfl

/-- the body so far: what is still to come is Z, the whole is W -/
def Bd (w0 : World) (W Z : List UInt8) (v : Value) (w : World) : Prop :=
  ∃ R, R ++ Z = W ∧ w.ownsRow w0.heap.size 5 1 v R.length (cellsOf R) ∧ Below w0.heap.size w0 w

theorem own_slice {W : World} {base : Nat} {v : Value} {k : Nat} {xs : List Value} {e z : Nat} (h : W.ownsRow base e z v k xs) : ∃ x n c, v = .slice x n c := by
  rcases h.2 with ⟨rfl, _⟩ | ⟨g', cap, cur, rfl, hb, _⟩
  · exact ⟨_, _, _, rfl⟩
  · exact ⟨_, _, _, rfl⟩

theorem bd_str (w w0 : World) {ops : Array Oper} {rest : List Oper} {o : Oper} {a : Act} {Q : Exit → Act → World → Prop} (hgd : o.guard = none) (s x : Operand)
    (ho : o.op = .call { callee := .builtin .append, args := #[s, x], argTypes := #[22, 9] }) (W Z : List UInt8) (v : Value) (hs : a.eval s = v) (t : ByteArray) (hx : a.eval x = .string t)
    (hW : W.length ≤ 1099511627776) (hB : Bd w0 W (t.data.toList ++ Z) v w)
    (h : ∀ x' n' c' w', Hid (Bd w0 W Z (.slice x' n' c') w') → wpList Try.prog ops Q rest (a.put o.dst (.slice x' n' c')) w') : wpList Try.prog ops Q (o :: rest) a w := by
  obtain ⟨R, hR, hown, hb⟩ := hB
  obtain ⟨i0, hi, hz0, hz1, hz2⟩ := info_parts info5
  have hl := congrArg List.length hR
  simp only [List.length_append, Array.length_toList, ByteArray.size_data] at hl
  refine Lib.wpList_append_own_string w hgd s x 22 9 ho w0.heap.size 5 i0 Try.underlying22 Try.underlying9 hi hz0 hz1 hz2 v R.length (cellsOf R) hs hown t hx (by unfold maxLen; omega) (by omega) hb.size ?_
  intro v' w' ho' hg _
  have e : R.length + t.size = (R ++ t.data.toList).length := by simp
  rw [strCells_eq, ← cellsOf_append, e] at ho'
  obtain ⟨x', n', c', rfl⟩ := own_slice ho'
  refine h x' n' c' w' ⟨R ++ t.data.toList, by rw [List.append_assoc]; exact hR, ho', ?_⟩
  exact hb.grown hg hb.size (fun k e => row_ge hown k e)

theorem bd_one (u w0 : World) {ops : Array Oper} {rest : List Oper} {o : Oper} {a : Act} {Q : Exit → Act → World → Prop} (b : UInt8) (bi : Int) (hbi : bi = (b.toNat : Int)) (hgd : o.guard = none) (s x : Operand)
    (ho : o.op = .call { callee := .builtin .append, args := #[s, x], argTypes := #[22, 22] }) (W Z : List UInt8) (v : Value) (hs : a.eval s = v) (hx : a.eval x = .slice (some ⟨u.heap.size, 0, none⟩) 1 1)
    (hW : W.length ≤ 1099511627776) (hB : Bd w0 W (b :: Z) v u)
    (h : ∀ x' n' c' w', Hid (Bd w0 W Z (.slice x' n' c') w') → wpList Try.prog ops Q rest (a.put o.dst (.slice x' n' c')) w') : wpList Try.prog ops Q (o :: rest) a (u.alloc (.cells #[.int .u8 bi] 5)) := by
  subst hbi
  obtain ⟨R, hR, hown, hb⟩ := hB
  obtain ⟨i0, hi, hz0, hz1, hz2⟩ := info_parts info5
  have hl := congrArg List.length hR
  simp only [List.length_append, List.length_cons] at hl
  refine wpList_append_own _ hgd s x 22 ho w0.heap.size 5 i0 _ 1 1 Try.underlying22 hi hz0 hz1 hz2 rfl (by decide) v R.length (cellsOf R) hs (hown.alloc _) ⟨u.heap.size, 0, none⟩ 1 1 [.int .u8 (b.toNat : Int)] hx rfl ?_ ?_ (by unfold maxLen; omega) (by omega) (by rw [World.size_alloc]; have := hb.size; omega) ?_
  · intro j y hy
    match j with
    | 0 =>
      simp at hy; subst hy
      rw [WideShapes.add_plain]
      exact (Boxed.new u 5 (.int .u8 (b.toNat : Int))).cell
    | j + 1 => simp at hy
  · intro y hy
    simp at hy; subst hy; rfl
  · intro v' w' ho' hg _
    have e : R.length + 1 = (R ++ [b]).length := by simp
    have e2 : cellsOf R ++ [Value.int .u8 (b.toNat : Int)] = cellsOf (R ++ [b]) := by simp [cellsOf]
    rw [e2, e] at ho'
    obtain ⟨x', n', c', rfl⟩ := own_slice ho'
    refine h x' n' c' w' ⟨R ++ [b], by rw [List.append_assoc]; exact hR, ho', ?_⟩
    exact (hb.alloc hb.size _).grown hg (by rw [World.size_alloc]; have := hb.size; omega) (fun k e => row_ge hown k e)

theorem make_bytes (w : World) (c : Nat) (hc : c ≤ 1099511627776) : ∃ C : Array Value, C.size = c ∧ (Instr.makeSlice 22 (.int .i64 0) (.int .i64 (c : Int))).run Try.prog w = .ok (.slice (some ⟨w.heap.size, 0, none⟩) 0 c) (w.alloc (.cells C 5)) := by
  obtain ⟨i0, hi, hz0, hz1, hz2⟩ := info_parts info5
  have := run_make (P := Try.prog) w 22 5 i0 _ Try.underlying22 hi hz0 .i64 .i64 0 c (by omega) (by omega) (by rw [hz2]; omega) (by omega)
  simp only [Int.toNat_zero, Int.toNat_natCast, hz1, Nat.mul_one] at this
  exact ⟨_, size_madeCells _ _, this⟩

theorem bd_start (w : World) (C : Array Value) (c : Nat) (hC : C.size = c) (hc : c ≤ 1099511627776) (W : List UInt8) : Bd w W W (.slice (some ⟨w.heap.size, 0, none⟩) 0 c) (w.alloc (.cells C 5)) :=
  ⟨[], rfl, ⟨rfl, .inr ⟨w.heap.size, c, C, rfl, Nat.le_refl _, World.alloc_heap_new w _, Nat.zero_le _, by unfold maxLen; omega, by omega, by simp [cellsOf]⟩⟩, (Below.refl _ w).alloc (Nat.le_refl _) _⟩

theorem make_list (w : World) (c : Nat) (hc : c ≤ 1099511627776) : ∃ C : Array Value, C.size = c ∧ (Instr.makeSlice 24 (.int .i64 (c : Int)) (.int .i64 (c : Int))).run Try.prog w = .ok (.slice (some ⟨w.heap.size, 0, none⟩) c c) (w.alloc (.cells C 9)) := by
  obtain ⟨i0, hi, hz0, hz1, hz2⟩ := info_parts info9
  have := run_make (P := Try.prog) w 24 9 i0 _ Try.underlying24 hi hz0 .i64 .i64 c c (by omega) (by omega) (by rw [hz2]; omega) (by omega)
  simp only [Int.toNat_natCast, hz1, Nat.mul_one] at this
  exact ⟨_, size_madeCells _ _, this⟩

/-- 'c := make([]string, len(addresses)); copy(c, addresses)' -/
theorem clone_strs (x : Addr) (c N : Nat) (ss : List ByteArray) (w : World) (C : Array Value) (hC : C.size = N) (hN : N = ss.length) (hs : ∀ i (hi : i < ss.length), w.cell? (x.add i) = some (.string ss[i])) :
    ∃ w1, (Builtin.copy_ #[24, 24] 3 #[.slice (some ⟨w.heap.size, 0, none⟩) N N, .slice (some x) N c]).run Try.prog (w.alloc (.cells C 9)) = .ok (.int .i64 (N : Int)) w1 ∧
      Hid (∀ i (hi : i < ss.length), w1.cell? ⟨w.heap.size, 0 + i, none⟩ = some (.string ss[i])) ∧ Below w.heap.size w w1 ∧ w.heap.size < w1.heap.size := by
  have hsz : (Try.prog.info? 9).map (·.size) = some 1 := by kernel_rfl
  have hrow : (w.alloc (.cells C 9)).heap[w.heap.size]? = some (.cells C 9 (0, 0)) := World.alloc_heap_new w _
  have hb : Below w.heap.size w (w.alloc (.cells C 9)) := (Below.refl _ w).alloc (Nat.le_refl _) _
  have hl : (ss.map Value.string).length = N := by rw [List.length_map, hN]
  have hr := run_copy_row (P := Try.prog) (w.alloc (.cells C 9)) 24 24 3 9 w.heap.size 0 N N x N c C 9 (ss.map Value.string) Try.underlying24 hsz hrow (by rw [hl]; exact (Nat.min_self N).symm)
    (fun j v hj => by
      rw [List.getElem?_map] at hj
      by_cases h1 : j < ss.length
      · rw [List.getElem?_eq_getElem h1] at hj
        simp at hj; subst hj
        exact Lib.cell?_alloc_marked _ (hs j h1)
      · rw [List.getElem?_eq_none (by omega)] at hj; simp at hj) (by rw [hl]; omega) (by intro v hv; obtain ⟨b, _, rfl⟩ := List.mem_map.1 hv; rfl)
  rw [hl] at hr
  obtain ⟨L, hL⟩ : ∃ L, L = C.toList.take 0 ++ ss.map Value.string ++ C.toList.drop (0 + N) := ⟨_, rfl⟩
  rw [← hL] at hr
  have e := setRow_heap (w.alloc (.cells C 9)) w.heap.size _ L.toArray 9 _ hrow
  refine ⟨_, hr, ?_, below_setRow hb (Nat.le_refl _) _, (Array.getElem?_eq_some_iff.1 e).1⟩
  intro i hi
  have hg : L.toArray[0 + i]? = some (.string ss[i]) := by
    rw [hL]
    simp only [List.take_zero, List.nil_append, Nat.zero_add, List.getElem?_toArray]
    rw [List.getElem?_append_left (by rw [List.length_map]; exact hi), List.getElem?_map, List.getElem?_eq_getElem hi]
    rfl
  unfold World.cell?
  simp only [e]
  exact hg

/-- the body, finished -/
theorem bd_end {w0 w : World} {W : List UInt8} {x : Option Addr} {n c : Nat} (h : Bd w0 W [] (.slice x n c) w) (h0 : 0 < W.length) :
    ∃ g, x = some ⟨g, 0, none⟩ ∧ n = W.length ∧ (∀ j (hj : j < W.length), w.cell? ⟨g, j, none⟩ = some (.int .u8 (W[j].toNat : Int))) ∧ Below w0.heap.size w0 w := by
  obtain ⟨R, hR, ho, hb⟩ := h
  rw [List.append_nil] at hR
  subst hR
  rcases ho.2 with ⟨_, h1⟩ | ⟨g, cap, cur, h1, h2, h3, h4, h5, h6, h7⟩
  · omega
  · injection h1 with e1 e2 e3
    refine ⟨g, e1, e2, fun j hj => ?_, hb⟩
    have hc := ho.cells (g := g) (by rw [e1]; rfl) j (.int .u8 (R[j].toNat : Int)) (by simp [cellsOf, hj])
    rw [WideShapes.add_plain, Nat.zero_add] at hc
    exact hc

end Go.Proofs.Qxb6605439a
