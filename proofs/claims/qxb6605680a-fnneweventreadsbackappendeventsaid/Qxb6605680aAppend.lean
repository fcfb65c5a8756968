/-
  Seat b6605680a: THE WALK OF sse.AppendEvent (14).
-/
import Derived.Test.Qxb6605680aModel
import Derived.Lib.AppendStr
namespace Go.Proofs.Qxb6605680a
open Go.RowKit Go.Shelf

theorem strCells_eq (t : ByteArray) : Lib.strCells t = cellsOf t.data.toList := rfl
theorem byteCells_eq (t : ByteArray) : byteCells t = cellsOf t.data.toList := rfl
theorem size_list (t : ByteArray) : t.data.toList.length = t.size := by simp

/-- 'append(dst, t...)', t a string that is not empty, dst a row of the call's own without spare room: A NEW BLOCK. -/
theorem wpList_first (w : World) {ops : Array Oper} {rest : List Oper} {o : Oper} {a : Act} {Q : Exit → Act → World → Prop} (hgd : o.guard = none) (s x : Operand)
    (ho : o.op = .call { callee := .builtin .append, args := #[s, x], argTypes := #[22, 9] }) (base : Nat) (v0 : Option Addr) (k : Nat) (S : List UInt8) (hk : k = S.length) (hs : a.eval s = .slice v0 k k) (hown : w.ownsRow base 5 1 (.slice v0 k k) S.length (cellsOf S))
    (t : ByteArray) (hx : a.eval x = .string t) (ht : 0 < t.size) (hb : k + t.size ≤ 140737488355328) (hbase : base ≤ w.heap.size)
    (h : ∀ v' w', w'.ownsRow w.heap.size 5 1 v' (S ++ t.data.toList).length (cellsOf (S ++ t.data.toList)) → Below w.heap.size w w' → (∃ x n c, v' = .slice x n c) → wpList Try.prog ops Q rest (a.put o.dst v') w') : wpList Try.prog ops Q (o :: rest) a w := by
  obtain ⟨i0, hi, hz0, hz1, hz2⟩ := info_parts info5
  subst hk
  refine wpList_plain hgd fun K hK => ?_
  obtain ⟨v', w', hr, h2, h3, h4⟩ := Lib.run_append_own_string (P := Try.prog) w base 22 9 o.type 5 i0 Try.underlying22 Try.underlying9 hi hz0 hz1 hz2 _ S.length (cellsOf S) hown t (by unfold maxLen; omega) hb hbase
  have hold : ∃ olds : List Value, (Builtin.firstCells i0.size S.length (.slice v0 S.length S.length)).run Try.prog w.drew = .ok olds.toArray w.drew := by
    rcases hown.2 with ⟨h1, _⟩ | ⟨g, cap, cur, h1, _⟩
    · injection h1 with e1 e2 e3
      subst e1
      exact ⟨[], run_firstCells_none w.drew _ _ _ _⟩
    · injection h1 with e1 e2 e3
      subst e1
      refine ⟨cellsOf S, run_firstCells_some w.drew i0.size S.length ⟨g, 0, none⟩ _ _ (cellsOf S) (by rw [hz1, cellsOf_length]; omega) (fun j u hu => ?_)⟩
      exact hown.cells (g := g) rfl j u hu
  obtain ⟨olds, hold⟩ := hold
  have hg := run_append_grow_src (P := Try.prog) w 22 9 o.type 5 i0 _ Try.underlying22 hi hz0 v0 S.length S.length olds hold (.string t) t.size (byteCells t) (by rw [hz1]; exact Src.ofString w Try.underlying9 t) (by omega) (by omega) (by rw [hz2]; exact growslice_fits (by omega) (by omega))
  rw [hr] at hg
  injection hg with e1 e2
  subst e1
  unfold Oper.wp execOp
  simp only [ho, resolve, invoke, builtin, Sem.run_bind, Sem.run_pure, Result.andThen_ok, List.map_toArray, List.map_cons, List.map_nil, hs, hx, hr]
  refine hK _ _ (h _ _ ?_ ?_ ⟨_, _, _, rfl⟩)
  · rw [List.length_append, size_list, cellsOf_append]
    refine ⟨h2.1, ?_⟩
    rcases h2.2 with ⟨q1, _⟩ | ⟨g, cp, cur, q1, q2, q3⟩
    · cases q1
    · injection q1 with f1 f2 f3
      injection f1 with f1
      injection f1 with f1 _
      subst f1
      exact .inr ⟨_, cp, cur, by rw [f3], Nat.le_refl _, q3⟩
  · rw [e2]
    exact ((Below.refl _ w).drew).alloc (by simp) _

/-- 'append(dst, t...)', t a string, dst a row of the call's own -/
theorem wpList_str (w : World) {ops : Array Oper} {rest : List Oper} {o : Oper} {a : Act} {Q : Exit → Act → World → Prop} (hgd : o.guard = none) (s x : Operand)
    (ho : o.op = .call { callee := .builtin .append, args := #[s, x], argTypes := #[22, 9] }) (base : Nat) (v : Value) (S : List UInt8) (hs : a.eval s = v) (hown : w.ownsRow base 5 1 v S.length (cellsOf S))
    (t : ByteArray) (hx : a.eval x = .string t) (hb : S.length + t.size ≤ 140737488355328) (hbase : base ≤ w.heap.size)
    (h : ∀ v' w', w'.ownsRow base 5 1 v' (S ++ t.data.toList).length (cellsOf (S ++ t.data.toList)) → w.grownBy w' v.ownBlock → (∃ x n c, v' = .slice x n c) → wpList Try.prog ops Q rest (a.put o.dst v') w') : wpList Try.prog ops Q (o :: rest) a w := by
  obtain ⟨i0, hi, hz0, hz1, hz2⟩ := info_parts info5
  refine Lib.wpList_append_own_string w hgd s x 22 9 ho base 5 i0 Try.underlying22 Try.underlying9 hi hz0 hz1 hz2 v S.length (cellsOf S) hs hown t hx (by unfold maxLen; omega) hb hbase ?_
  intro v' w' ho' hg _
  rw [strCells_eq, ← cellsOf_append, ← size_list, ← List.length_append] at ho'
  exact h v' w' ho' hg (own_slice ho')

/-- 'append(dst, src...)', src nil or bytes that lie somewhere, dst a row of the call's own -/
theorem wpList_src (w : World) {ops : Array Oper} {rest : List Oper} {o : Oper} {a : Act} {Q : Exit → Act → World → Prop} (hgd : o.guard = none) (s x : Operand)
    (ho : o.op = .call { callee := .builtin .append, args := #[s, x], argTypes := #[22, 22] }) (base : Nat) (v : Value) (l l' : List UInt8) (hs : a.eval s = v) (hown : w.ownsRow base 5 1 v l.length (cellsOf l))
    (xo : Option Addr) (m c : Nat) (hm : m = l'.length) (hx : a.eval x = .slice xo m c) (hsrc : SrcAt w xo c l') (hb : l.length + m ≤ 140737488355328) (hbase : base ≤ w.heap.size)
    (h : ∀ v' w', w'.ownsRow base 5 1 v' (l ++ l').length (cellsOf (l ++ l')) → w.grownBy w' v.ownBlock → (∃ x n c, v' = .slice x n c) → wpList Try.prog ops Q rest (a.put o.dst v') w') : wpList Try.prog ops Q (o :: rest) a w := by
  rcases hsrc with ⟨rfl, rfl, rfl⟩ | ⟨B, y, rfl, hseg⟩
  · obtain ⟨i0, hi, hz0, hz1, hz2⟩ := info_parts info5
    subst hm
    obtain ⟨ax, an, ac, rfl⟩ := own_slice hown
    refine wpList_plain hgd fun K hK => ?_
    have hle : an ≤ ac := by
      rcases hown.2 with ⟨h1, _⟩ | ⟨g, cap, cur, h1, h2, h3, h4, _⟩
      · injection h1 with e1 e2 e3; omega
      · injection h1 with e1 e2 e3; omega
    have hrun := run_append_nothing (P := Try.prog) w 22 22 o.type 5 i0 Try.underlying22 hi ax an ac hle (.slice none 0 0) (by rw [hz1]; exact Src.ofNil w Try.underlying22 0)
    unfold Oper.wp execOp
    simp only [List.length_nil] at hx
    simp only [ho, resolve, invoke, builtin, Sem.run_bind, Sem.run_pure, Result.andThen_ok, List.map_toArray, List.map_cons, List.map_nil, hs, hx, hrun]
    exact hK _ _ (h _ w (by simpa using hown) ⟨rfl, rfl, rfl, Nat.le_refl _, fun _ _ _ => rfl⟩ ⟨_, _, _, rfl⟩)
  · exact wpList_app w hgd s x ho base v l l' hs hown B y m c hm hx hseg hb hbase h

/-- a source that lies below what is grown -/
theorem SrcAt.grow {W W' : World} {x : Option Addr} {c base : Nat} {l : List UInt8} {v : Value} {k : Nat} {xs : List Value} (h : SrcAt W x c l) (hg : W.grownBy W' v.ownBlock) (hown : W.ownsRow base 5 1 v k xs) (hb : ∀ a, x = some a → 0 < l.length → a.block < base) : SrcAt W' x c l := by
  rcases h with h | ⟨B, y, rfl, hs⟩
  · exact .inl h
  · refine .inr ⟨B, y, rfl, ?_⟩
    by_cases h0 : 0 < l.length
    · exact hs.same (hg.block B (hs.block h0) (fun e => by have := own_ge hown _ e.symm; have := hb _ rfl h0; simp at this; omega))
    · intro i hi; omega
theorem SrcAt.belowW {W W' : World} {x : Option Addr} {c : Nat} {l : List UInt8} (h : SrcAt W x c l) (hb : Below W.heap.size W W') : SrcAt W' x c l := by
  rcases h with h | ⟨B, y, rfl, hs⟩
  · exact .inl h
  · refine .inr ⟨B, y, rfl, ?_⟩
    by_cases h0 : 0 < l.length
    · exact hs.below hb (hs.block h0)
    · intro i hi; omega
theorem SrcAt.lt {W : World} {x : Option Addr} {c : Nat} {l : List UInt8} (h : SrcAt W x c l) : ∀ a, x = some a → 0 < l.length → a.block < W.heap.size := by
  intro a ha h0
  rcases h with ⟨rfl, _⟩ | ⟨B, y, rfl, hs⟩
  · cases ha
  · cases ha; exact hs.block h0

theorem tmp_seg (W : World) : Seg (W.alloc (.cells #[.int .u8 10] 5)) W.heap.size 0 [10] := by
  intro i hi
  obtain rfl : i = 0 := by simp at hi; omega
  exact (Boxed.new W 5 (.int .u8 10)).cell

set_option maxHeartbeats 1000000 in
/-- without a type -/
theorem append_bare (v0 : Option Addr) (k base : Nat) (S : List UInt8) (da : Option Addr) (m dc : Nat) (D R : List UInt8) (w : World) (hk : k = S.length) (hown : w.ownsRow base 5 1 (.slice v0 k k) S.length (cellsOf S)) (hbase : base ≤ w.heap.size)
    (hm : m = D.length) (hD : SrcAt w da dc D) (h1 : k ≤ 1048576) (h2 : m ≤ 1048576) (HR : Hid (((S ++ [100, 97, 116, 97, 58, 32]) ++ D) ++ [10, 10] = R)) :
    Calls Try.prog 14 #[.slice v0 k k, .string ⟨#[]⟩, .slice da m dc] w fun e w' =>
      (∃ v', e = .returned v' ∧ w'.ownsRow w.heap.size 5 1 v' R.length (cellsOf R)) ∧ Below w.heap.size w w' := by
  have HK : Hid (k = S.length) := hk
  have HM : Hid (m = D.length) := hm
  have hDlt := hD.lt
  have HDl : Hid (∀ a, da = some a → 0 < D.length → a.block < w.heap.size) := hDlt
  have t1 : True := trivial
  have t2 : True := trivial
  have hSk : S.length ≤ 1048576 := by omega
  have hDk : D.length ≤ 1048576 := by omega
  clear hk hm hDlt
  go_enter Try.func14, Try.ntmps14
  go_wp2_with (first
    | (at_builtin; have _t := t1; refine wpList_first _ rfl _ _ rfl base v0 k S HK.out rfl hown _ rfl (by decide) (by show k + 6 ≤ _; omega) hbase ?_; intro v1 w1 o1 hb1 hs1; clear t1; obtain ⟨x1, n1, c1, rfl⟩ := hs1; have z1 := hb1.size; have hD1 := hD.belowW hb1)
    | (at_builtin; have _t := t2; refine wpList_src _ rfl _ _ rfl w.heap.size _ _ D rfl o1 da m dc HM.out rfl hD1 (by simp; omega) (by omega) ?_; intro v2 w2 o2 hg2 hs2; clear t2; obtain ⟨x2, n2, c2, rfl⟩ := hs2)
    | (at_builtin; refine wpList_str _ rfl _ _ rfl w.heap.size _ _ rfl o2 _ rfl (by have h10 : (⟨#[10, 10]⟩ : ByteArray).size = 2 := rfl; rw [h10]; simp; omega) (by have := hg2.size; omega) ?_; intro v3 w3 o3 hg3 hs3; obtain ⟨x3, n3, c3, rfl⟩ := hs3))
  go_ret
  refine ⟨⟨_, rfl, by rw [← HR.out]; exact o3⟩, ?_⟩
  exact (hb1.grown hg2 (by omega) (fun j e => own_ge o1 j e)).grown hg3 (by have := hg2.size; omega) (fun j e => own_ge o2 j e)

set_option maxHeartbeats 1000000 in
/-- with a type -/
theorem append_typed (v0 : Option Addr) (k base : Nat) (S : List UInt8) (et : ByteArray) (da : Option Addr) (m dc : Nat) (D R : List UInt8) (w : World) (hk : k = S.length) (hown : w.ownsRow base 5 1 (.slice v0 k k) S.length (cellsOf S)) (hbase : base ≤ w.heap.size)
    (hm : m = D.length) (hD : SrcAt w da dc D) (h1 : k ≤ 1048576) (h2 : m ≤ 1048576) (h3 : et.size ≤ 1048576) (hne : et.toList.isEmpty = false) (HR : Hid ((((((S ++ [101, 118, 101, 110, 116, 58, 32]) ++ et.data.toList) ++ [10]) ++ [100, 97, 116, 97, 58, 32]) ++ D) ++ [10, 10] = R)) :
    Calls Try.prog 14 #[.slice v0 k k, .string et, .slice da m dc] w fun e w' =>
      (∃ v', e = .returned v' ∧ w'.ownsRow w.heap.size 5 1 v' R.length (cellsOf R)) ∧ Below w.heap.size w w' := by
  have HK : Hid (k = S.length) := hk
  have HM : Hid (m = D.length) := hm
  have HDl : Hid (∀ a, da = some a → 0 < D.length → a.block < w.heap.size) := hD.lt
  have hSk : S.length ≤ 1048576 := by omega
  have hDk : D.length ≤ 1048576 := by omega
  have hel : et.data.toList.length ≤ 1048576 := by rw [size_list]; exact h3
  have t1 : True := trivial
  have t2 : True := trivial
  have t3 : True := trivial
  have t4 : True := trivial
  have t5 : True := trivial
  clear hk hm
  go_enter Try.func14, Try.ntmps14
  go_wp2_with (first
    | (at_builtin; have _t := t1; refine wpList_first _ rfl _ _ rfl base v0 k S HK.out rfl hown _ rfl (by decide) (by show k + 7 ≤ _; omega) hbase ?_; intro v1 w1 o1 hb1 hs1; clear t1; obtain ⟨x1, n1, c1, rfl⟩ := hs1; have z1 := hb1.size; have hD1 := hD.belowW hb1)
    | (at_builtin; have _t := t2; refine wpList_str _ rfl _ _ rfl w.heap.size _ _ rfl o1 et rfl (by simp; omega) (by omega) ?_; intro v2 w2 o2 hg2 hs2; clear t2; obtain ⟨x2, n2, c2, rfl⟩ := hs2; have z2 := hg2.size; have hD2 := hD1.grow hg2 o1 HDl.out)
    | (at_builtin; have _t := t3; refine wpList_app _ rfl _ _ rfl w.heap.size _ _ [10] rfl (o2.alloc _) w2.heap.size 0 1 1 rfl rfl (tmp_seg w2) (by simp; omega) (by simp; omega) ?_; intro v3 w3 o3 hg3 hs3; clear t3; obtain ⟨x3, n3, c3, rfl⟩ := hs3; have z3 := hg3.size; rw [World.size_alloc] at z3; have hD3 := (hD2.alloc _).grow hg3 (o2.alloc _) HDl.out)
    | (at_builtin; have _t := t4; refine wpList_str _ rfl _ _ rfl w.heap.size _ _ rfl o3 _ rfl (by have h10 : (⟨#[100, 97, 116, 97, 58, 32]⟩ : ByteArray).size = 6 := rfl; rw [h10]; simp; omega) (by omega) ?_; intro v4 w4 o4 hg4 hs4; clear t4; obtain ⟨x4, n4, c4, rfl⟩ := hs4; have z4 := hg4.size; have hD4 := hD3.grow hg4 o3 HDl.out)
    | (at_builtin; have _t := t5; refine wpList_src _ rfl _ _ rfl w.heap.size _ _ D rfl o4 da m dc HM.out rfl hD4 (by simp; omega) (by omega) ?_; intro v5 w5 o5 hg5 hs5; clear t5; obtain ⟨x5, n5, c5, rfl⟩ := hs5; have z5 := hg5.size)
    | (at_builtin; refine wpList_str _ rfl _ _ rfl w.heap.size _ _ rfl o5 _ rfl (by have h10 : (⟨#[10, 10]⟩ : ByteArray).size = 2 := rfl; rw [h10]; simp; omega) (by omega) ?_; intro v6 w6 o6 hg6 hs6; obtain ⟨x6, n6, c6, rfl⟩ := hs6))
  go_ret
  refine ⟨⟨_, rfl, by rw [← HR.out]; exact o6⟩, ?_⟩
  exact ((((((hb1.grown hg2 (by omega) (fun j e => own_ge o1 j e)).alloc (by omega) _).grown hg3 (by simp; omega) (fun j e => own_ge o2 j e)).grown hg4 (by omega) (fun j e => own_ge o3 j e)).grown hg5 (by omega) (fun j e => own_ge o4 j e)).grown hg6 (by omega) (fun j e => own_ge o5 j e))

end Go.Proofs.Qxb6605680a
