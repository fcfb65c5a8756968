/-
  Seat b6605439a: THE WALKS OF strings.Count at one byte (22), decodePlain (17), ZZDecodePlain (8).
-/
import Derived.Test.Qxb6605439aScan
import Derived.Laws.IdiomStrings
import Derived.Lib.Bytealg
import Derived.OwnWalk
import Derived.Laws.MakeOwn
import Derived.Lib.AppendStr
import Derived.Lib.SlBytesConst
import Derived.RangeFuncNested
namespace Go.Proofs.Qxb6605439a
open Go.RowKit

/-- what a device writes: behind the opening bracket; 'first': no address stands ahead -/
def its (ws : List UInt8) : Bool → List (List UInt8) → List UInt8
  | _, [] => ws ++ (93 :: (ws ++ (125 :: ws)))
  | true, A :: As => ws ++ (34 :: (A ++ (34 :: its ws false As)))
  | false, A :: As => ws ++ (44 :: (ws ++ (34 :: (A ++ (34 :: its ws false As)))))
/-- .. the whole -/
def obj (ws : List UInt8) (As : List (List UInt8)) : List UInt8 :=
  ws ++ (123 :: (ws ++ ([34, 97, 100, 100, 114, 101, 115, 115, 101, 115, 34] ++ (ws ++ (58 :: (ws ++ (91 :: its ws true As)))))))

/-- strings as cells -/
def strsOf (As : List (List UInt8)) : List Value := As.map fun A => Value.string ⟨A.toArray⟩

theorem info9 : (Try.prog.info? 9).map (fun i => (i.zero, i.size, i.bytes)) = some (some (.string ⟨#[]⟩), 1, 16) := by kernel_rfl

set_option maxHeartbeats 1000000 in
theorem count_any (s : ByteArray) (w : World) :
    Calls Try.prog 22 #[.string s, .string ⟨#[34]⟩] w fun e w' => (∃ c : Nat, e = .returned (.int .i64 (c : Int)) ∧ c ≤ s.size) ∧ w' = w := by
  go_enter Try.func22, Try.ntmps22
  go_wp2
  rw [run_callFunc_extern Try.func25 (by kernel_rfl) (by kernel_rfl) (by kernel_rfl) (e := Extern.BytealgCount.count) (by kernel_rfl), Lib.run_countString]
  simp only [Result.andThen]
  rw [Oper.upon_value]
  go_wp2
  go_ret
  refine ⟨⟨_, rfl, ?_⟩, rfl⟩
  unfold Lib.countByte
  exact Nat.le_trans (List.count_le_length) (by simp)

theorem make_strs (w : World) (c : Nat) (hc : c ≤ 1099511627776) : ∃ C : Array Value, C.size = c ∧ (Instr.makeSlice 24 (.int .i64 0) (.int .i64 (c : Int))).run Try.prog w = .ok (.slice (some ⟨w.heap.size, 0, none⟩) 0 c) (w.alloc (.cells C 9)) := by
  obtain ⟨i0, hi, hz0, hz1, hz2⟩ := info_parts info9
  have := run_make (P := Try.prog) w 24 9 i0 _ Try.underlying24 hi hz0 .i64 .i64 0 c (by omega) (by omega) (by rw [hz2]; omega) (by omega)
  simp only [Int.toNat_zero, Int.toNat_natCast, hz1, Nat.mul_one] at this
  exact ⟨_, size_madeCells _ _, this⟩

/-- the scanner, and what lies ahead of it -/
def Sc (w : World) (sb : Nat) (T : ByteArray) (R : List UInt8) : Prop := ∃ k, k ≤ T.size ∧ T.data.toList.drop k = R ∧ At w sb T k

theorem Sc.kept {w w' : World} {sb : Nat} {T : ByteArray} {R : List UInt8} (h : Sc w sb T R) (e : w'.heap[sb]? = w.heap[sb]?) : Sc w' sb T R := by
  obtain ⟨k, h1, h2, h3⟩ := h
  exact ⟨k, h1, h2, e.trans h3⟩
theorem Sc.lt {w : World} {sb : Nat} {T : ByteArray} {R : List UInt8} (h : Sc w sb T R) : sb < w.heap.size := by
  obtain ⟨k, h1, h2, h3⟩ := h
  exact (Array.getElem?_eq_some_iff.1 h3).1

theorem tokS (sb : Nat) (T p : ByteArray) (w : World) (S R : List UInt8) (c : UInt8) (p' : List UInt8) (hT : T.size ≤ 1099511627776) (h : Sc w sb T (S ++ (p.data.toList ++ R))) (hS : ∀ c ∈ S, sp c) (hp' : p.data.toList = c :: p') (hc : ¬ sp c) :
    Calls Try.prog 21 #[.pointer (some ⟨sb, 0, none⟩), .string p] w fun e w' => e = .returned (.bool true) ∧ Sc w' sb T R ∧ w.grownBy w' (some sb) := by
  obtain ⟨k, h1, h2, h3⟩ := h
  refine (tok_hit sb T p k w S R c p' hT h1 h3 h2 hS hp' hc).mono ?_
  rintro e w' ⟨rfl, ha, hg⟩
  have hl := len_drop h2 h1
  simp only [List.length_append, Array.length_toList, ByteArray.size_data] at hl
  refine ⟨rfl, ⟨_, by omega, ?_, ha⟩, hg⟩
  have e := drop_more (drop_more h2)
  simpa using e

theorem missS (sb : Nat) (T : ByteArray) (q : UInt8) (w : World) (S R : List UInt8) (c : UInt8) (hT : T.size ≤ 1099511627776) (h : Sc w sb T (S ++ (c :: R))) (hS : ∀ c ∈ S, sp c) (hcq : c ≠ q) (hc : ¬ sp c) :
    Calls Try.prog 21 #[.pointer (some ⟨sb, 0, none⟩), .string ⟨#[q]⟩] w fun e w' => e = .returned (.bool false) ∧ Sc w' sb T (c :: R) ∧ w.grownBy w' (some sb) := by
  obtain ⟨k, h1, h2, h3⟩ := h
  refine (tok_miss sb T q k w S R c hT h1 h3 h2 hS hcq hc).mono ?_
  rintro e w' ⟨rfl, ha, hg⟩
  have hl := len_drop h2 h1
  simp only [List.length_append, List.length_cons] at hl
  exact ⟨rfl, ⟨_, by omega, drop_more h2, ha⟩, hg⟩

theorem strS (sb : Nat) (T : ByteArray) (w : World) (S A R : List UInt8) (hT : T.size ≤ 1099511627776) (h : Sc w sb T (S ++ (34 :: (A ++ (34 :: R))))) (hS : ∀ c ∈ S, sp c) (hA : ∀ c ∈ A, pr c) :
    Calls Try.prog 19 #[.pointer (some ⟨sb, 0, none⟩)] w fun e w' => e = .returned (.tuple #[.string ⟨A.toArray⟩, .bool true]) ∧ Sc w' sb T R ∧ w.grownBy w' (some sb) := by
  obtain ⟨k, h1, h2, h3⟩ := h
  refine (str_hit sb T k w S A R hT h1 h3 h2 hS hA).mono ?_
  rintro e w' ⟨rfl, ha, hg⟩
  have hl := len_drop h2 h1
  simp only [List.length_append, List.length_cons] at hl
  exact ⟨rfl, ⟨k + S.length + 1 + A.length + 1, by omega, drop_more (A := [34]) (drop_more (drop_more (A := [34]) (drop_more h2))), ha⟩, hg⟩

theorem endS (sb : Nat) (T : ByteArray) (w : World) (S : List UInt8) (hT : T.size ≤ 1099511627776) (h : Sc w sb T S) (hS : ∀ c ∈ S, sp c) :
    Calls Try.prog 20 #[.pointer (some ⟨sb, 0, none⟩)] w fun e w' => e = .returned (.tuple #[]) ∧ At w' sb T T.size ∧ w.grownBy w' (some sb) := by
  obtain ⟨k, h1, h2, h3⟩ := h
  exact skip_end sb T k w S hT h1 h3 h2 hS

def lenOf (w : World) (ab : Nat) : Nat := match w.cell? ⟨ab, 0, none⟩ with | some (.slice _ n _) => n | _ => 0

theorem ab_old {w w4 : World} {o1 o2 : Obj} (h : ((w.alloc o1).alloc o2).grownBy w4 (some (w.heap.size + 1))) : w4.heap[w.heap.size]? = some o1 := by
  rw [h.block w.heap.size (by simp only [World.size_alloc]; omega) (by intro e; injection e with e; omega), Below.heap_alloc _ _ _ (by simp only [World.size_alloc]; omega)]
  exact World.alloc_heap_new w _

theorem below_old {w w4 : World} {o1 o2 : Obj} (h : ((w.alloc o1).alloc o2).grownBy w4 (some (w.heap.size + 1))) : Below w.heap.size w w4 := by
  refine Below.grown ?_ h (by simp only [World.size_alloc]; omega) (fun k e => by injection e with e; omega)
  exact ((Below.refl _ w).alloc (Nat.le_refl _) _).alloc (by simp only [World.size_alloc]; omega) _

theorem its_nil (ws : List UInt8) (b : Bool) : its ws b [] = ws ++ (93 :: (ws ++ (125 :: ws))) := by cases b <;> rfl

/-- the decoder's loop -/
def DI (w : World) (T : ByteArray) (ws : List UInt8) (As : List (List UInt8)) (wr : World) : Prop :=
  ∃ (m : Nat) (x : Addr) (c : Nat), m ≤ As.length ∧ Sc wr (w.heap.size + 1) T (its ws (m == 0) (As.drop m)) ∧ wr.heap[w.heap.size]? = some (.cells #[.slice (some x) m c] 26) ∧
    wr.ownsRow (w.heap.size + 2) 9 1 (.slice (some x) m c) m (strsOf (As.take m)) ∧ Below w.heap.size w wr

theorem lenOf_at {w : World} {ab m c : Nat} {x : Option Addr} (h : w.heap[ab]? = some (.cells #[.slice x m c] 26)) : lenOf w ab = m := by
  unfold lenOf; simp [World.cell?, h]

theorem row_ge {W : World} {base : Nat} {v : Value} {k : Nat} {xs : List Value} {e z : Nat} (h : W.ownsRow base e z v k xs) : ∀ g, v.ownBlock = some g → base ≤ g := by
  intro g e
  rcases h.2 with ⟨rfl, _⟩ | ⟨g', cap, cur, rfl, hb, _⟩
  · simp [Value.ownBlock] at e
  · simp [Value.ownBlock] at e; omega

/-- 'append(list, one)', the list a row of the call's own -/
theorem wpList_strs (w : World) {ops : Array Oper} {rest : List Oper} {o : Oper} {a : Act} {Q : Exit → Act → World → Prop} (hgd : o.guard = none) (s x : Operand)
    (ho : o.op = .call { callee := .builtin .append, args := #[s, x], argTypes := #[24, 24] }) (base : Nat) (v : Value) (m : Nat) (l : List (List UInt8)) (hs : a.eval s = v) (hown : w.ownsRow base 9 1 v m (strsOf l))
    (ad : Addr) (A : List UInt8) (hx : a.eval x = .slice (some ad) 1 1) (hcell : w.cell? (ad.add 0) = some (.string ⟨A.toArray⟩)) (hb : m ≤ 1099511627776) (hbase : base ≤ w.heap.size)
    (h : ∀ x' c' w', w'.ownsRow base 9 1 (.slice (some x') (m + 1) c') (m + 1) (strsOf (l ++ [A])) → w.grownBy w' v.ownBlock → wpList Try.prog ops Q rest (a.put o.dst (.slice (some x') (m + 1) c')) w') : wpList Try.prog ops Q (o :: rest) a w := by
  obtain ⟨i0, hi, hz0, hz1, hz2⟩ := info_parts info9
  refine wpList_append_own w hgd s x 24 ho base 9 i0 _ 1 16 Try.underlying24 hi hz0 hz1 hz2 rfl (by decide) v m (strsOf l) hs hown ad 1 1 [.string ⟨A.toArray⟩] hx rfl ?_ ?_ (by unfold maxLen; omega) (by omega) hbase ?_
  · intro j u hu
    match j with
    | 0 => simp at hu; subst hu; exact hcell
    | j + 1 => simp at hu
  · intro u hu
    simp at hu; subst hu; rfl
  · intro v' w' ho' hg _
    have e : strsOf l ++ [Value.string ⟨A.toArray⟩] = strsOf (l ++ [A]) := by simp [strsOf]
    rw [e] at ho'
    rcases ho'.2 with ⟨_, h0⟩ | ⟨g, cap, cur, rfl, _⟩
    · omega
    · exact h _ _ w' ho' hg

theorem box_cell {W : World} {ab t : Nat} {v : Value} (h : W.heap[ab]? = some (.cells #[v] t)) : W.cell? ⟨ab, 0, none⟩ = some v := by simp [World.cell?, h]
theorem box_free {W : World} {ab t : Nat} {v : Value} (h : W.heap[ab]? = some (.cells #[v] t)) : W.frozen? ⟨ab, 0, none⟩ = false := by simp [World.frozen?, h]
theorem box_set {W : World} {ab t : Nat} {v : Value} (h : W.heap[ab]? = some (.cells #[v] t)) (u : Value) : (W.setCell ⟨ab, 0, none⟩ u).heap[ab]? = some (.cells #[u] t) := by
  simp [World.setCell, Array.getElem?_modify, h]

theorem di_start {w w5 : World} {T : ByteArray} {ws : List UInt8} {As : List (List UInt8)} {C : Array Value} {c2 : Nat} (hC : C.size = c2) (hc2 : c2 ≤ 1099511627776) (hS : Sc w5 (w.heap.size + 1) T (its ws true As))
    (ha : w5.heap[w.heap.size]? = some (.cells #[.slice none 0 0] 26)) (hB : Below w.heap.size w w5) (hz : w.heap.size + 2 ≤ w5.heap.size) :
    DI w T ws As ((w5.alloc (.cells C 9)).setCell ⟨w.heap.size, 0, none⟩ (.slice (some ⟨w5.heap.size, 0, none⟩) 0 c2)) := by
  have ha1 : (w5.alloc (.cells C 9)).heap[w.heap.size]? = some (.cells #[.slice none 0 0] 26) := (Below.heap_alloc _ _ _ (by omega)).trans ha
  refine ⟨0, _, c2, Nat.zero_le _, ?_, box_set ha1 _, ⟨rfl, .inr ⟨w5.heap.size, c2, C, rfl, hz, ?_, Nat.zero_le _, by unfold maxLen; omega, by omega, by simp [strsOf]⟩⟩, ?_⟩
  · refine hS.kept ?_
    rw [Below.heap_setCell _ _ _ _ (by show _ ≠ w.heap.size; omega), Below.heap_alloc _ _ _ (by omega)]
  · rw [Below.heap_setCell _ _ _ _ (by show _ ≠ w.heap.size; omega)]
    exact World.alloc_heap_new w5 _
  · exact ((hB.alloc (by omega) _).setCell (Nat.le_refl _) _)

theorem own_drew {W : World} {base : Nat} {v : Value} {k : Nat} {xs : List Value} {e z : Nat} (h : W.ownsRow base e z v k xs) : W.drew.ownsRow base e z v k xs := h
theorem own_mono {W : World} {base base' : Nat} {v : Value} {k : Nat} {xs : List Value} {e z : Nat} (h : W.ownsRow base e z v k xs) (hb : base' ≤ base) : W.ownsRow base' e z v k xs := by
  refine ⟨h.1, ?_⟩
  rcases h.2 with h1 | ⟨g, cap, cur, h1, h2, h3⟩
  · exact .inl h1
  · exact .inr ⟨g, cap, cur, h1, by omega, h3⟩

theorem one_cell (u : World) (A : List UInt8) : (u.alloc (.cells #[.string ⟨A.toArray⟩] 9)).cell? ((⟨u.heap.size, 0, none⟩ : Addr).add 0) = some (.string ⟨A.toArray⟩) := by
  rw [WideShapes.add_plain]
  exact (Boxed.new u 9 (.string ⟨A.toArray⟩)).cell

theorem ab_kept {w u3 u4 : World} {o : Obj} {v : Value} {y : Obj} {m : Nat} {xs : List Value} (h : u3.heap[w.heap.size]? = some y) (ho : u3.ownsRow (w.heap.size + 2) 9 1 v m xs) (hg : (u3.alloc o).grownBy u4 v.ownBlock) : u4.heap[w.heap.size]? = some y := by
  have hl := (Array.getElem?_eq_some_iff.1 h).1
  rw [hg.block _ (by rw [World.size_alloc]; omega) (fun e => by have := row_ge ho _ e.symm; omega), Below.heap_alloc _ _ _ hl]
  exact h

theorem di_step {w wr u3 u4 : World} {T : ByteArray} {ws A : List UInt8} {As As' : List (List UInt8)} {m c c' : Nat} {x x' : Addr} {o : Obj} (hm : m < As.length) (ht : As.take (m + 1) = As.take m ++ [A]) (hd : As.drop (m + 1) = As')
    (hS : Sc u3 (w.heap.size + 1) T (its ws false As')) (ho : wr.ownsRow (w.heap.size + 2) 9 1 (.slice (some x) m c) m (strsOf (As.take m))) (hg3 : wr.grownBy u3 (some (w.heap.size + 1))) (hB : Below w.heap.size w wr)
    (hg4 : (u3.alloc o).grownBy u4 (Value.slice (some x) m c).ownBlock) (o4 : u4.ownsRow (w.heap.size + 2) 9 1 (.slice (some x') (m + 1) c') (m + 1) (strsOf (As.take m ++ [A])))
    (ha : u4.heap[w.heap.size]? = some (.cells #[.slice (some x) m c] 26)) :
    DI w T ws As (u4.setCell ⟨w.heap.size, 0, none⟩ (.slice (some x') (m + 1) c')) := by
  have hsl := hS.lt
  have hz := hB.size
  refine ⟨m + 1, x', c', hm, ?_, box_set ha _, ?_, ?_⟩
  · rw [show (m + 1 == 0) = false by simp, hd]
    refine hS.kept ?_
    rw [Below.heap_setCell _ _ _ _ (by show _ ≠ w.heap.size; omega), hg4.block _ (by rw [World.size_alloc]; omega) (fun e => by have := row_ge ho _ e.symm; omega), Below.heap_alloc _ _ _ hsl]
  · rw [ht]
    exact ownsRow_setCell_below o4 (by show w.heap.size < _; omega) _
  · have h3 := hB.grown hg3 hz (fun k e => by injection e with e; omega)
    have h4 := (h3.alloc h3.size o).grown hg4 (by rw [World.size_alloc]; omega) (fun k e => by have := row_ge ho _ e; omega)
    exact h4.setCell (Nat.le_refl _) _

theorem di_less {w wr u : World} {N m c c' : Nat} {x x' : Option Addr} (hm : m < N) (h1 : u.heap[w.heap.size]? = some (.cells #[.slice x' (m + 1) c'] 26)) (h2 : wr.heap[w.heap.size]? = some (.cells #[.slice x m c] 26)) :
    N - lenOf u w.heap.size < N - lenOf wr w.heap.size := by
  rw [lenOf_at h1, lenOf_at h2]; omega

set_option maxRecDepth 100000 in
set_option maxHeartbeats 2000000 in
theorem decode_any (g n cap : Nat) (ws : List UInt8) (As : List (List UInt8)) (w : World) (hn : n = (obj ws As).length) (hb : n ≤ 1099511627776) (hAl : As.length ≤ 1048576)
    (hcell : ∀ j (hj : j < (obj ws As).length), w.cell? ⟨g, j, none⟩ = some (.int .u8 ((obj ws As)[j].toNat : Int))) (hws : ∀ c ∈ ws, sp c) (hAs : ∀ A ∈ As, ∀ c ∈ A, pr c) :
    Calls Try.prog 17 #[.slice (some ⟨g, 0, none⟩) n cap] w fun e w' => (∃ x c, e = .returned (.tuple #[.agg #[.slice (some x) As.length c], .bool true]) ∧ w'.ownsRow w.heap.size 9 1 (.slice (some x) As.length c) As.length (strsOf As)) ∧ Below w.heap.size w w' := by
  obtain ⟨T, hT⟩ : ∃ T : ByteArray, T = ⟨(obj ws As).toArray⟩ := ⟨_, rfl⟩
  have HTd : Hid (T.data.toList = obj ws As) := by unfold Hid; rw [hT]
  have HTs : Hid (T.size = n) := by unfold Hid; rw [hn, hT]; simp [ByteArray.size]
  have hcv : (convert 22 9 (.slice (some ⟨g, 0, none⟩) n cap)).run Try.prog (w.alloc (.cells #[.slice none 0 0] 26)) = .ok (.string T) (w.alloc (.cells #[.slice none 0 0] 26)) := by
    rw [hT, hn]
    refine run_convert_bytes_back _ 22 9 5 ⟨g, 0, none⟩ cap _ Try.underlying22 Try.underlying5 Try.underlying9 (fun j hj => ?_)
    rw [WideShapes.add_plain, Nat.zero_add]
    exact Lib.cell?_alloc_marked _ (hcell j hj)
  have hTb : T.size ≤ 1099511627776 := by rw [HTs.out]; exact hb
  clear hT hcell hn
  go_enter Try.func17, Try.ntmps17
  have nsp : ∀ c : UInt8, c = 123 ∨ c = 34 ∨ c = 58 ∨ c = 91 ∨ c = 93 ∨ c = 44 ∨ c = 125 → ¬ sp c := by
    rintro c (rfl | rfl | rfl | rfl | rfl | rfl | rfl) <;> (unfold sp; decide)
  have HN : Hid (∀ c : UInt8, c = 123 ∨ c = 34 ∨ c = 58 ∨ c = 91 ∨ c = 93 ∨ c = 44 ∨ c = 125 → ¬ sp c) := nsp
  have HW : Hid (∀ c ∈ ws, sp c) := hws
  have HAs : Hid (∀ A ∈ As, ∀ c ∈ A, pr c) := hAs
  clear nsp hws hAs
  go_wp2_with fail
  have s0 : Sc ((w.alloc (Obj.cells #[Value.slice none 0 0] 26)).alloc (Obj.cells #[Value.string T, Value.int IntKind.i64 0] 40)) (w.heap.size + 1) T (obj ws As) := ⟨0, Nat.zero_le _, by rw [List.drop_zero]; exact HTd.out, by
    have := World.alloc_heap_new (w.alloc (Obj.cells #[Value.slice none 0 0] 26)) (Obj.cells #[Value.string T, Value.int IntKind.i64 0] 40)
    rw [World.size_alloc] at this
    exact this⟩
  refine (tokS _ T ⟨#[123]⟩ _ ws _ 123 [] hTb s0 HW.out rfl (HN.out _ (by simp))).mono ?_
  rintro r w1 ⟨rfl, s1, g1⟩
  have S1 : Hid (Sc w1 (w.heap.size + 1) T _) := s1
  clear s0 s1
  go_wp2_with fail
  refine (tokS _ T ⟨#[34, 97, 100, 100, 114, 101, 115, 115, 101, 115, 34]⟩ _ ws _ 34 [97, 100, 100, 114, 101, 115, 115, 101, 115, 34] hTb S1.out HW.out rfl (HN.out _ (by simp))).mono ?_
  rintro r w2 ⟨rfl, s2, g2⟩
  have S2 : Hid (Sc w2 (w.heap.size + 1) T _) := s2
  clear s2 S1
  go_wp2_with fail
  refine (tokS _ T ⟨#[58]⟩ _ ws _ 58 [] hTb S2.out HW.out rfl (HN.out _ (by simp))).mono ?_
  rintro r w3 ⟨rfl, s3, g3⟩
  have S3 : Hid (Sc w3 (w.heap.size + 1) T _) := s3
  clear s3 S2
  go_wp2_with fail
  refine (tokS _ T ⟨#[91]⟩ _ ws _ 91 [] hTb S3.out HW.out rfl (HN.out _ (by simp))).mono ?_
  rintro r w4 ⟨rfl, s4, g4⟩
  have S4 : Hid (Sc w4 (w.heap.size + 1) T (its ws true As)) := s4
  obtain ⟨k4, hk4, hd4, hA4⟩ := s4
  have c4 := hA4.pos
  have hk4' : (k4 : Int) ≤ (T.size : Int) := by omega
  have G4 : Hid (((w.alloc (Obj.cells #[Value.slice none 0 0] 26)).alloc (Obj.cells #[Value.string T, Value.int IntKind.i64 0] 40)).grownBy w4 (some (w.heap.size + 1))) := Lib.grownBy_trans (Lib.grownBy_trans (Lib.grownBy_trans g1 g2) g3) g4
  have hz4 := G4.out.size
  rw [World.size_alloc, World.size_alloc] at hz4
  have a4 : w4.heap[w.heap.size]? = some (.cells #[.slice none 0 0] 26) := ab_old G4.out
  have B4 : Hid (Below w.heap.size w w4) := below_old G4.out
  have b0 : w4.cell? ⟨w.heap.size, 0, none⟩ = some (.slice none 0 0) := by simp [World.cell?, a4]
  have b1 : w4.frozen? ⟨w.heap.size, 0, none⟩ = false := by simp [World.frozen?, a4]
  clear S3 g1 g2 g3 g4 hd4 hA4
  go_wp2_with fail
  refine (count_any _ _).mono ?_
  rintro r w5 ⟨⟨cc, rfl, hcc⟩, rfl⟩
  have hc2 : cc / 2 ≤ 1099511627776 := by simp at hcc; omega
  obtain ⟨c2, HC2⟩ : ∃ c2, Hid (c2 = cc / 2) := ⟨_, rfl⟩
  have hwr : wrap64 ((cc : Int) / 2) = (c2 : Int) := by
    have := HC2.out; unfold wrap64; omega
  rw [← HC2.out] at hc2
  obtain ⟨C, hC, hmk⟩ := make_strs w5 c2 hc2
  have HC : Hid (C.size = c2) := hC
  have a5 : (w5.alloc (.cells C 9)).heap[w.heap.size]? = some (.cells #[.slice none 0 0] 26) := (Below.heap_alloc _ _ _ (by omega)).trans a4
  have HDI : Hid (DI w T ws As ((w5.alloc (.cells C 9)).setCell ⟨w.heap.size, 0, none⟩ (.slice (some ⟨w5.heap.size, 0, none⟩) 0 c2))) := di_start hC hc2 S4.out a4 B4.out (by omega)
  have b2 := box_cell a5
  have b3 := box_free a5
  clear hcc hC a4 a5 b0 b1 S4 G4 B4
  go_wp2_with fail
  go_loopw [] (fun wr => DI w T ws As wr) (fun wr => As.length - lenOf wr w.heap.size)
  case atStart => exact HDI.out
  case round =>
    clear HDI b2 b3 hwr hmk
    obtain ⟨m, x, c, hm, hS, ha, ho, hB⟩ := hrel
    have HO : Hid (wr.ownsRow (w.heap.size + 2) 9 1 (.slice (some x) m c) m (strsOf (As.take m))) := ho
    have HB : Hid (Below w.heap.size w wr) := hB
    have hz := hB.size
    have hsl := hS.lt
    have HM : Hid (m ≤ As.length) := hm
    have hml := ho.2
    clear ho hB hml
    by_cases hme : m = As.length
    · subst hme
      rw [List.drop_length, its_nil] at hS
      go_wp2_with fail
      refine (tokS _ T ⟨#[93]⟩ _ ws _ 93 [] hTb hS HW.out rfl (HN.out _ (by simp))).mono ?_
      rintro r u1 ⟨rfl, s1, g1⟩
      have S1 : Hid (Sc u1 (w.heap.size + 1) T _) := s1
      clear s1 hS
      go_wp2_with fail
      refine (tokS _ T ⟨#[125]⟩ _ ws _ 125 [] hTb S1.out HW.out rfl (HN.out _ (by simp))).mono ?_
      rintro r u2 ⟨rfl, s2, g2⟩
      have S2 : Hid (Sc u2 (w.heap.size + 1) T _) := s2
      clear s2 S1
      go_wp2_with fail
      refine (endS _ T _ ws hTb S2.out HW.out).mono ?_
      rintro r u3 ⟨rfl, hA3, g3⟩
      have G3 : wr.grownBy u3 (some (w.heap.size + 1)) := Lib.grownBy_trans (Lib.grownBy_trans g1 g2) g3
      have ha3 : u3.heap[w.heap.size]? = some (.cells #[.slice (some x) As.length c] 26) := (G3.block _ (by omega) (by intro e; injection e with e; omega)).trans ha
      have b0 := box_cell ha3
      have b1 := box_free ha3
      have c1 := hA3.pos
      have HG3 : Hid (wr.grownBy u3 (some (w.heap.size + 1))) := G3
      have HA3 : Hid (u3.heap[w.heap.size]? = some (.cells #[.slice (some x) As.length c] 26)) := ha3
      clear S2 g1 g2 g3 G3 ha3 hA3 ha
      go_wp2_with fail
      go_region
      all_goals go_wp2_with fail
      have HX : Hid ((u3.setCell ⟨w.heap.size, 0, none⟩ (Value.slice (some x) As.length c)).heap[w.heap.size]? = some (.cells #[.slice (some x) As.length c] 26)) := box_set HA3.out _
      have c9 := box_cell HX.out
      refine bodyPost_ret (v := .tuple #[.agg #[.slice (some x) As.length c], .bool true]) (by simp [results, Try.results17, go_sem, c9]) rfl ⟨⟨x, c, rfl, ?_⟩, ?_⟩
      · have o3 := HO.out.kept HG3.out (.inr (fun e => by have := row_ge HO.out _ e; omega))
        have o4 := ownsRow_setCell_below o3 (a := ⟨w.heap.size, 0, none⟩) (by show w.heap.size < _; omega) (Value.slice (some x) As.length c)
        rw [List.take_length] at o4
        exact (own_drew (own_mono o4 (by omega)))
      · exact ((HB.out.grown HG3.out (by omega) (fun k e => by injection e with e; omega)).setCell (Nat.le_refl _) _).drew
    · obtain ⟨A, As', hAs⟩ : ∃ A As', As.drop m = A :: As' := by
        cases h : As.drop m with
        | nil => have := congrArg List.length h; simp at this; omega
        | cons A As' => exact ⟨A, As', rfl⟩
      have hmlt : m < As.length := by omega
      have hA : ∀ c ∈ A, pr c := HAs.out A (by
        have : A ∈ As.drop m := by rw [hAs]; simp
        exact List.mem_of_mem_drop this)
      have HA : Hid (∀ c ∈ A, pr c) := hA
      have hd1 : As.drop (m + 1) = As' := by rw [← List.drop_drop, hAs]; rfl
      have ht1 : As.take (m + 1) = As.take m ++ [A] := by
        rw [List.take_add_one, ← List.head?_drop, hAs]; rfl
      have HD1 : Hid (As.drop (m + 1) = As') := hd1
      have HT1 : Hid (As.take (m + 1) = As.take m ++ [A]) := ht1
      rw [hAs] at hS
      clear hA hd1 ht1 hAs
      by_cases hm0 : (0 : Int) < (m : Int)
      · rw [show (m == 0) = false by simp; omega] at hS
        have hS' : Sc wr (w.heap.size + 1) T (ws ++ (44 :: (ws ++ (34 :: (A ++ (34 :: its ws false As')))))) := hS
        clear hS
        go_wp2_with fail
        refine (missS _ T 93 _ ws _ 44 hTb hS' HW.out (by decide) (HN.out _ (by simp))).mono ?_
        rintro r u1 ⟨rfl, s1, g1⟩
        have S1 : Hid (Sc u1 (w.heap.size + 1) T ([] ++ ((⟨#[44]⟩ : ByteArray).data.toList ++ (ws ++ (34 :: (A ++ (34 :: its ws false As'))))))) := s1
        have HG1 : Hid (wr.grownBy u1 (some (w.heap.size + 1))) := g1
        have ha1 : u1.heap[w.heap.size]? = some (.cells #[.slice (some x) m c] 26) := (g1.block _ (by omega) (by intro e; injection e with e; omega)).trans ha
        have b0 := box_cell ha1
        clear s1 hS' g1
        go_wp2_with fail
        refine (tokS _ T ⟨#[44]⟩ _ [] _ 44 [] hTb S1.out (by simp) rfl (HN.out _ (by simp))).mono ?_
        rintro r u2 ⟨rfl, s2, g2⟩
        have S2 : Hid (Sc u2 (w.heap.size + 1) T (ws ++ (34 :: (A ++ (34 :: its ws false As'))))) := s2
        have HG2 : Hid (u1.grownBy u2 (some (w.heap.size + 1))) := g2
        clear s2 S1 g2 b0
        go_wp2_with fail
        refine (strS _ T _ ws A _ hTb S2.out HW.out HA.out).mono ?_
        rintro r u3 ⟨rfl, s3, g3⟩
        have HG3 : Hid (wr.grownBy u3 (some (w.heap.size + 1))) := Lib.grownBy_trans (Lib.grownBy_trans HG1.out HG2.out) g3
        have ha3 : u3.heap[w.heap.size]? = some (.cells #[.slice (some x) m c] 26) := ((Lib.grownBy_trans HG2.out g3).block _ (by have := HG1.out.size; omega) (by intro e; injection e with e; omega)).trans ha1
        have S3 : Hid (Sc u3 (w.heap.size + 1) T (its ws false As')) := s3
        have HA3 : Hid (u3.heap[w.heap.size]? = some (.cells #[.slice (some x) m c] 26)) := ha3
        have b0 := box_cell ha3
        have o3 := HO.out.kept HG3.out (.inr (fun e => by have := row_ge HO.out _ e; omega))
        have hz3 := HG3.out.size
        clear S2 g3 HG1 HG2 s3 ha1 ha3
        go_wp2_with (at_builtin; refine wpList_strs _ rfl _ _ rfl (w.heap.size + 2) _ m (As.take m) rfl (o3.alloc _) ⟨u3.heap.size, 0, none⟩ A rfl (one_cell u3 A) (by omega) (by rw [World.size_alloc]; omega) ?_; intro x' c' u4 o4 hg4; have ha4 := ab_kept HA3.out o3 hg4; have b4 := box_cell ha4; have b5 := box_free ha4)
        go_roundw
        case rel => exact di_step hmlt HT1.out HD1.out S3.out HO.out HG3.out HB.out hg4 o4 ha4
        case measure => exact di_less hmlt (box_set ha4 _) ha
      · obtain rfl : m = 0 := by omega
        have hS' : Sc wr (w.heap.size + 1) T (ws ++ (34 :: (A ++ (34 :: its ws false As')))) := hS
        clear hS
        go_wp2_with fail
        refine (missS _ T 93 _ ws _ 34 hTb hS' HW.out (by decide) (HN.out _ (by simp))).mono ?_
        rintro r u1 ⟨rfl, s1, g1⟩
        have S1 : Hid (Sc u1 (w.heap.size + 1) T ([] ++ (34 :: (A ++ (34 :: its ws false As'))))) := s1
        have HG1 : Hid (wr.grownBy u1 (some (w.heap.size + 1))) := g1
        have ha1 : u1.heap[w.heap.size]? = some (.cells #[.slice (some x) 0 c] 26) := (g1.block _ (by omega) (by intro e; injection e with e; omega)).trans ha
        have b0 := box_cell ha1
        clear s1 hS' g1
        go_wp2_with fail
        refine (strS _ T _ [] A _ hTb S1.out (by simp) HA.out).mono ?_
        rintro r u3 ⟨rfl, s3, g3⟩
        have HG3 : Hid (wr.grownBy u3 (some (w.heap.size + 1))) := Lib.grownBy_trans HG1.out g3
        have ha3 : u3.heap[w.heap.size]? = some (.cells #[.slice (some x) 0 c] 26) := (g3.block _ (by have := HG1.out.size; omega) (by intro e; injection e with e; omega)).trans ha1
        have S3 : Hid (Sc u3 (w.heap.size + 1) T (its ws false As')) := s3
        have HA3 : Hid (u3.heap[w.heap.size]? = some (.cells #[.slice (some x) 0 c] 26)) := ha3
        clear b0
        have b0 := box_cell ha3
        have o3 := HO.out.kept HG3.out (.inr (fun e => by have := row_ge HO.out _ e; omega))
        have hz3 := HG3.out.size
        clear S1 g3 HG1 s3 ha1 ha3
        go_wp2_with (at_builtin; refine wpList_strs _ rfl _ _ rfl (w.heap.size + 2) _ 0 (As.take 0) rfl (o3.alloc _) ⟨u3.heap.size, 0, none⟩ A rfl (one_cell u3 A) (by omega) (by rw [World.size_alloc]; omega) ?_; intro x' c' u4 o4 hg4; have ha4 := ab_kept HA3.out o3 hg4; have b4 := box_cell ha4; have b5 := box_free ha4)
        go_roundw
        case rel => exact di_step hmlt HT1.out HD1.out S3.out HO.out HG3.out HB.out hg4 o4 ha4
        case measure => exact di_less hmlt (box_set ha4 _) ha
theorem zz8_any (g n cap : Nat) (ws : List UInt8) (As : List (List UInt8)) (w : World) (hn : n = (obj ws As).length) (hb : n ≤ 1099511627776) (hAl : As.length ≤ 1048576)
    (hcell : ∀ j (hj : j < (obj ws As).length), w.cell? ⟨g, j, none⟩ = some (.int .u8 ((obj ws As)[j].toNat : Int))) (hws : ∀ c ∈ ws, sp c) (hAs : ∀ A ∈ As, ∀ c ∈ A, pr c) :
    Calls Try.prog 8 #[.slice (some ⟨g, 0, none⟩) n cap] w fun e w' => (∃ x c, e = .returned (.tuple #[.agg #[.slice (some x) As.length c], .bool true]) ∧ w'.ownsRow w.heap.size 9 1 (.slice (some x) As.length c) As.length (strsOf As)) ∧ Below w.heap.size w w' := by
  have HD : Hid (Calls Try.prog 17 #[.slice (some ⟨g, 0, none⟩) n cap] (w.alloc (.cells #[.slice none 0 0] 26)) fun e w' => (∃ x c, e = .returned (.tuple #[.agg #[.slice (some x) As.length c], .bool true]) ∧ w'.ownsRow (w.heap.size + 1) 9 1 (.slice (some x) As.length c) As.length (strsOf As)) ∧ Below (w.heap.size + 1) (w.alloc (.cells #[.slice none 0 0] 26)) w') := by
    have := decode_any g n cap ws As (w.alloc (.cells #[.slice none 0 0] 26)) hn hb hAl (fun j hj => Lib.cell?_alloc_marked _ (hcell j hj)) hws hAs
    rw [World.size_alloc] at this
    exact this
  clear hcell hn hws hAs
  go_enter Try.func8, Try.ntmps8
  go_wp2_with fail
  refine HD.out.mono ?_
  rintro r w1 ⟨⟨x, c, rfl, ho⟩, hB⟩
  have ha : w1.heap[w.heap.size]? = some (.cells #[.slice none 0 0] 26) := (hB.block _ (by omega)).trans (World.alloc_heap_new w _)
  have b0 := box_cell ha
  have b1 := box_free ha
  have HA : Hid (w1.heap[w.heap.size]? = some (.cells #[.slice none 0 0] 26)) := ha
  have HB : Hid (Below w.heap.size w w1) := ((Below.refl _ w).alloc (Nat.le_refl _) _).trans (hB.mono (by omega))
  have HO : Hid (w1.ownsRow (w.heap.size + 1) 9 1 (.slice (some x) As.length c) As.length (strsOf As)) := ho
  clear ha hB ho HD
  go_wp2_with fail
  have c9 := box_cell (box_set HA.out (.slice (some x) As.length c))
  refine bodyPost_ret (v := .tuple #[.agg #[.slice (some x) As.length c], .bool true]) (by simp [results, Try.results8, go_sem, c9]) rfl ⟨⟨x, c, rfl, ?_⟩, ?_⟩
  · exact own_mono (ownsRow_setCell_below HO.out (by show w.heap.size < _; omega) _) (by omega)
  · exact HB.out.setCell (Nat.le_refl _) _

end Go.Proofs.Qxb6605439a
