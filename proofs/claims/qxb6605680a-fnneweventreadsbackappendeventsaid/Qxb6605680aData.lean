/-
  Seat b6605680a: THE WALK OF sse.dataFields (16).
-/
import Derived.Test.Qxb6605680aLines
namespace Go.Proofs.Qxb6605680a
open Go.RowKit Go.Shelf
attribute [local go_sem] Oper.semAt_some

theorem lines_any (v0 : Option Addr) (n c : Nat) (w : World) :
    Calls Try.prog 18 #[.slice v0 n c] w fun e w' => e = .returned (.func (.func 20) #[] #[.pointer (some ⟨w.heap.size, 0, none⟩)]) ∧ w' = w.alloc (.cells #[.slice v0 n c] 22) := by
  go_enter Try.func18, Try.ntmps18
  go_wp2
  go_ret
  exact ⟨rfl, rfl⟩

/-- the first data field's value -/
def IsFirst (B o cap : Nat) (a : Sp.Acc) (v : Value) : Prop :=
  (a.col = false ∧ v = .slice none 0 0) ∨ (a.col = true ∧ ∃ x c, v = .slice (some ⟨B, x, none⟩) (a.fe - a.fs) c ∧ a.fe - a.fs ≤ c ∧ c ≤ cap ∧ (0 < a.fe - a.fs → x = o + a.fs))

theorem Boxed.keptK {W W' : World} {b n₀ Bn : Nat} {t : TypeId} {v : Value} (h : Boxed W b t v) (hk : Kept n₀ Bn W W') (h1 : b < n₀) (h2 : b ≠ Bn) : Boxed W' b t v := (hk.low b h1 h2).trans h
theorem Boxed.drewK {W : World} {b : Nat} {t : TypeId} {v : Value} (h : Boxed W b t v) : Boxed W.drew b t v := h
theorem Below.keptK {w W W' : World} {n n₀ Bn : Nat} (h : Below n w W) (hk : Kept n₀ Bn W W') (h1 : n ≤ n₀) (h2 : n ≤ Bn) : Below n w W' :=
  h.trans ⟨hk.os, hk.tape, hk.output, hk.size, fun k hn => hk.low k (by omega) (by omega)⟩
theorem Seg.keptK {W W' : World} {B o n₀ Bn : Nat} {ev : List UInt8} (h : Seg W B o ev) (hk : Kept n₀ Bn W W') (hB : 0 < ev.length → B < n₀ ∧ B ≠ Bn) : Seg W' B o ev := by
  by_cases h0 : 0 < ev.length
  · exact h.same (hk.low B (hB h0).1 (hB h0).2)
  · intro i hi; omega
theorem Seg.block {W : World} {B o : Nat} {ev : List UInt8} (h : Seg W B o ev) (h0 : 0 < ev.length) : B < W.heap.size := by
  have := h 0 h0
  rcases Nat.lt_or_ge B W.heap.size with h' | h'
  · exact h'
  · simp [World.cell?, Array.getElem?_eq_none h'] at this

theorem field_k (B o k cap : Nat) (L T : List UInt8) (w : World) (hk : k = L.length) (hT : L.take (Sp.trimLen L) = T) (hkc : L.length ≤ cap) (hm : cap ≤ 140737488355328) (h : Seg w B o L) :
    Calls Try.prog 19 #[.slice (some ⟨B, o, none⟩) k cap] w fun e w' =>
      (∃ v, e = .returned (.tuple #[.slice (some ⟨B, o, none⟩) (Sp.colon T) cap, v]) ∧ IsVal B o cap T v) ∧ Below w.heap.size w w' := by
  subst hk; subst hT; exact field_any B o cap L w hkc hm h

/-- a value, written out -/
theorem isVal_slice {B o cap : Nat} {T : List UInt8} {v : Value} (h : IsVal B o cap T v) : ∃ x c, v = .slice x (Sp.valOf T).length c ∧ (Sp.valOf T).length ≤ c ∧ c ≤ cap ∧
    ((Sp.hasCol T = false ∧ x = none ∧ c = 0) ∨ (Sp.hasCol T = true ∧ ∃ y, x = some ⟨B, y, none⟩ ∧ (0 < (Sp.valOf T).length → y = o + Sp.valAt T))) := by
  have hl : (Sp.valOf T).length = T.length - Sp.valAt T := by unfold Sp.valOf; rw [List.length_drop]
  rw [hl]
  rcases h with ⟨h1, rfl⟩ | ⟨h1, a, c, rfl, h2, h3, h4⟩
  · have hv : Sp.valAt T = T.length := by unfold Sp.valAt; rw [if_neg (by omega)]
    exact ⟨none, 0, by rw [hv, Nat.sub_self], by omega, by omega, .inl ⟨by simp [Sp.hasCol]; omega, rfl, rfl⟩⟩
  · exact ⟨_, c, rfl, h2, h3, .inr ⟨by simp [Sp.hasCol]; omega, a, rfl, h4⟩⟩

theorem keeps_of {W W1 : World} (hb : Below W.heap.size W W1) (n₀ : Nat) : KeepsFrom n₀ W W1 :=
  ⟨hb.size, fun k _ _ hk _ => (hb.block k (Array.getElem?_eq_some_iff.1 hk).1).trans hk⟩
theorem Boxed.belowK {W W1 : World} {b : Nat} {t : TypeId} {v : Value} (h : Boxed W b t v) (hb : Below W.heap.size W W1) : Boxed W1 b t v := (hb.block b h.lt).trans h
theorem conv_k (w : World) (B o k cap : Nat) (l : List UInt8) (h : Seg w B o l) (hk : k = l.length) :
    (convert 22 9 (.slice (some ⟨B, o, none⟩) k cap)).run Try.prog w = .ok (.string ⟨l.toArray⟩) w := by subst hk; exact conv_list w B o cap l h

theorem Seg.setCell {W : World} {B o b : Nat} {l : List UInt8} (h : Seg W B o l) (hb : B ≠ b) (v : Value) : Seg (W.setCell ⟨b, 0, none⟩ v) B o l := h.same (Below.heap_setCell _ _ _ _ hb)
theorem keeps_set (n₀ b : Nat) (W : World) (v : Value) : KeepsFrom n₀ W (W.setCell ⟨b, 0, none⟩ v) := (KeepsOthers.setCell _ _ _).from _
theorem box_eq {W : World} {b : Nat} {t : TypeId} {x y : Int} (h : Boxed W b t (.int .i64 x)) (e : x = y) : Boxed W b t (.int .i64 y) := e ▸ h

theorem isFirst_slice {B o cap : Nat} {a : Sp.Acc} {v : Value} (h : IsFirst B o cap a v) : ∃ x n c, v = .slice x n c := by
  rcases h with ⟨_, rfl⟩ | ⟨_, x, c, rfl, _⟩
  · exact ⟨_, _, _, rfl⟩
  · exact ⟨_, _, _, rfl⟩

set_option maxRecDepth 100000 in
set_option maxHeartbeats 1000000 in
theorem dataFields_any (v0 : Option Addr) (B o cap : Nat) (ev : List UInt8) (w : World) (hcap : ev.length ≤ cap) (hbd : ev.length ≤ 140737488355328) (hm : cap ≤ 9223372036854775807) (hv : 0 < ev.length → v0 = some ⟨B, o, none⟩) (hs : Seg w B o ev) :
    Calls Try.prog 16 #[.slice v0 ev.length cap] w fun e w' =>
      (∃ (a : Sp.Acc) (v : Value), Sp.Fin ev a ∧ e = .returned (.tuple #[v, .int .i64 (a.joined.length : Nat), .int .i64 (a.fields : Nat)]) ∧ IsFirst B o cap a v) ∧ Below w.heap.size w w' := by
  have hBw : 0 < ev.length → B < w.heap.size := fun h => hs.block h
  refine (callsIn_wide (n := 4)).1 ?_
  refine callsIn_of_wp_marks Try.func16 rfl trivial ?_ rfl
  simp only [Try.ntmps16, List.size_toArray, List.length_cons, List.length_nil, Nat.reduceAdd, Nat.reduceSub, Array.replicate_succ, Array.replicate_zero, List.push_toArray, List.append_toArray, List.nil_append, List.cons_append]
  gi_wp2_with (refine ⟨trivial, ?_⟩; gi_at_call 18; refine (callsIn_wide.2 (lines_any _ _ _ _)).mono ?_; rintro e w' ⟨rfl, rfl⟩)
  have hb1 : Boxed ((((w.alloc (Obj.cells #[Value.slice none 0 0] 22)).alloc (Obj.cells #[Value.int IntKind.i64 0] 3)).alloc (Obj.cells #[Value.int IntKind.i64 0] 3)).alloc (Obj.cells #[Value.slice v0 ev.length cap] 22)) w.heap.size 22 (.slice none 0 0) := (((Boxed.new _ _ _).alloc _).alloc _).alloc _
  have hb2 : Boxed ((((w.alloc (Obj.cells #[Value.slice none 0 0] 22)).alloc (Obj.cells #[Value.int IntKind.i64 0] 3)).alloc (Obj.cells #[Value.int IntKind.i64 0] 3)).alloc (Obj.cells #[Value.slice v0 ev.length cap] 22)) (w.heap.size + 1) 3 (.int .i64 0) := by
    have := Boxed.new (w.alloc (Obj.cells #[Value.slice none 0 0] 22)) 3 (.int .i64 0)
    rw [World.size_alloc] at this
    exact (this.alloc _).alloc _
  have hb3 : Boxed ((((w.alloc (Obj.cells #[Value.slice none 0 0] 22)).alloc (Obj.cells #[Value.int IntKind.i64 0] 3)).alloc (Obj.cells #[Value.int IntKind.i64 0] 3)).alloc (Obj.cells #[Value.slice v0 ev.length cap] 22)) (w.heap.size + 1 + 1) 3 (.int .i64 0) := by
    have := Boxed.new ((w.alloc (Obj.cells #[Value.slice none 0 0] 22)).alloc (Obj.cells #[Value.int IntKind.i64 0] 3)) 3 (.int .i64 0)
    rw [World.size_alloc, World.size_alloc] at this
    exact this.alloc _
  have hb4 : Boxed ((((w.alloc (Obj.cells #[Value.slice none 0 0] 22)).alloc (Obj.cells #[Value.int IntKind.i64 0] 3)).alloc (Obj.cells #[Value.int IntKind.i64 0] 3)).alloc (Obj.cells #[Value.slice v0 ev.length cap] 22)) (w.heap.size + 1 + 1 + 1) 22 (.slice v0 ev.length cap) := by
    have := Boxed.new (((w.alloc (Obj.cells #[Value.slice none 0 0] 22)).alloc (Obj.cells #[Value.int IntKind.i64 0] 3)).alloc (Obj.cells #[Value.int IntKind.i64 0] 3)) 22 (.slice v0 ev.length cap)
    rw [World.size_alloc, World.size_alloc, World.size_alloc] at this
    exact this
  have hbB : Below w.heap.size w ((((w.alloc (Obj.cells #[Value.slice none 0 0] 22)).alloc (Obj.cells #[Value.int IntKind.i64 0] 3)).alloc (Obj.cells #[Value.int IntKind.i64 0] 3)).alloc (Obj.cells #[Value.slice v0 ev.length cap] 22)) :=
    ((((Below.refl _ w).alloc (Nat.le_refl _) _).alloc (by simp) _).alloc (by simp; omega) _).alloc (by simp; omega) _
  have hsS : Seg ((((w.alloc (Obj.cells #[Value.slice none 0 0] 22)).alloc (Obj.cells #[Value.int IntKind.i64 0] 3)).alloc (Obj.cells #[Value.int IntKind.i64 0] 3)).alloc (Obj.cells #[Value.slice v0 ev.length cap] 22)) B o ev := (((hs.alloc _).alloc _).alloc _).alloc _
  have hsz : ((((w.alloc (Obj.cells #[Value.slice none 0 0] 22)).alloc (Obj.cells #[Value.int IntKind.i64 0] 3)).alloc (Obj.cells #[Value.int IntKind.i64 0] 3)).alloc (Obj.cells #[Value.slice v0 ev.length cap] 22)).heap.size = w.heap.size + 4 := by simp
  generalize ((((w.alloc (Obj.cells #[Value.slice none 0 0] 22)).alloc (Obj.cells #[Value.int IntKind.i64 0] 3)).alloc (Obj.cells #[Value.int IntKind.i64 0] 3)).alloc (Obj.cells #[Value.slice v0 ev.length cap] 22)) = W0 at *
  refine wpIn_lines (w.heap.size + 1 + 1 + 1) B o cap ev (by omega) hm rfl rfl (by omega)
    (fun p W => ∃ acc v, Sp.At ev p acc ∧ IsFirst B o cap acc v ∧ Boxed W w.heap.size 22 v ∧ Boxed W (w.heap.size + 1) 3 (.int .i64 (acc.joined.length : Nat)) ∧ Boxed W (w.heap.size + 1 + 1) 3 (.int .i64 (acc.fields : Nat)) ∧ Below w.heap.size w W ∧ Seg W B o ev)
    ?stay ?seg ⟨v0, cap, hb4.cell, hb4.frozen, by omega, by omega, fun h => by simpa using hv (by omega)⟩ ⟨Sp.acc0, _, Sp.at0 ev, .inl ⟨rfl, rfl⟩, hb1, hb2, hb3, hbB, hsS⟩
    (fun p => { tmps := #[.slice v0 ev.length cap, undef, .pointer (some ⟨w.heap.size, 0, none⟩), .pointer (some ⟨w.heap.size + 1, 0, none⟩), .pointer (some ⟨w.heap.size + 1 + 1, 0, none⟩), .slice (some ⟨B, o + p, none⟩) (Sp.lineLen (ev.drop p)) (Sp.lineLen (ev.drop p)), undef, undef, .slice v0 ev.length cap, .func (.func 20) #[] #[.pointer (some ⟨w.heap.size + 1 + 1 + 1, 0, none⟩)], .slice (some ⟨B, o + p, none⟩) (Sp.lineLen (ev.drop p)) (Sp.lineLen (ev.drop p)), undef, undef, undef, undef, undef, undef, undef, undef, undef, undef, undef, undef, undef, undef, undef, undef, undef, undef, undef, undef, undef, undef], defers := [] }) ?assign ?body ?done
  case stay =>
    rintro p W W' ⟨acc, v, hA, hF, c1, c2, c3, cB, cS⟩ hk
    rw [hsz] at hk
    exact ⟨acc, v, hA, hF, Boxed.keptK c1 hk (by omega) (by omega), Boxed.keptK c2 hk (by omega) (by omega), Boxed.keptK c3 hk (by omega) (by omega), Below.keptK cB hk (by omega) (by omega), cS.keptK hk (fun h => by have := hBw h; omega)⟩
  case seg =>
    rintro p W ⟨acc, v, hA, hF, c1, c2, c3, cB, cS⟩
    exact ⟨Sp.at_le hA, cS⟩
  case assign =>
    intro l p W K hK
    gi_wp2
    exact hK
  case body =>
    rintro l p W hp ⟨acc, v, hA, hF, c1, c2, c3, cB, cS⟩ hle
    have hok := Sp.at_ok hA
    have hlin : (Sp.lineAt ev p).length = Sp.lineLen (ev.drop p) := by
      unfold Sp.lineAt; rw [List.length_take]; have := Sp.lineLen_le (ev.drop p); omega
    have hBW : B < W.heap.size := by have := cS.block (by omega); exact this
    have hll := Sp.lineLen_le (ev.drop p)
    rw [List.length_drop] at hll
    have HFd : Hid (Calls Try.prog 19 #[.slice (some ⟨B, o + p, none⟩) (Sp.lineLen (ev.drop p)) (Sp.lineLen (ev.drop p))] W fun e w' =>
        (∃ v, e = .returned (.tuple #[.slice (some ⟨B, o + p, none⟩) (Sp.colon (Sp.textAt ev p)) (Sp.lineLen (ev.drop p)), v]) ∧ IsVal B (o + p) (Sp.lineLen (ev.drop p)) (Sp.textAt ev p) v) ∧ Below W.heap.size W w') :=
      field_k B (o + p) _ _ (Sp.lineAt ev p) (Sp.textAt ev p) W hlin.symm rfl (by omega) (by omega) (cS.sub p _)
    have hST : Seg W B (o + p) (Sp.textAt ev p) := (cS.sub p _).take _
    have hstep := Sp.at_step hA hp
    have hnl : Sp.colon (Sp.textAt ev p) = ((Sp.textAt ev p).take (Sp.colon (Sp.textAt ev p))).length := by rw [List.length_take]; have := Sp.colon_le (Sp.textAt ev p); omega
    have HNL : Hid (Sp.colon (Sp.textAt ev p) = ((Sp.textAt ev p).take (Sp.colon (Sp.textAt ev p))).length) := hnl
    clear hnl
    obtain ⟨fx, fn, fc, rfl⟩ := isFirst_slice hF
    have hjl := hok.len
    cases hd : Sp.isData (Sp.textAt ev p)
    · have HD : Hid (((Sp.textAt ev p).take (Sp.colon (Sp.textAt ev p)) == [100, 97, 116, 97]) = false) := hd
      have hst : Sp.stepL (Sp.textAt ev p) p acc = acc := by unfold Sp.stepL; rw [if_neg (by rw [hd]; simp)]
      rw [hst] at hstep
      clear hst hd
      gi_wp2_with (refine ⟨trivial, ?_⟩; gi_at_call 19; refine (CallsIn.inRound l (callsIn_wide.2 HFd.out)).mono ?_; rintro e W1 ⟨⟨v', rfl, hval⟩, hb1⟩; obtain ⟨x, c, rfl, hxc, hcc, hcase⟩ := isVal_slice hval; have HCS := show Hid _ from hcase; clear hcase; have e1 := Boxed.belowK c1 hb1; have e2 := Boxed.belowK c2 hb1; have e3 := Boxed.belowK c3 hb1; have d1 := e1.cell; have d2 := e2.cell; have d3 := e3.cell; have f1 := e1.frozen; have f2 := e2.frozen; have f3 := e3.frozen; have hconv := conv_k W1 B (o + p) _ (Sp.lineLen (ev.drop p)) _ ((hST.below hb1 hBW).take (Sp.colon (Sp.textAt ev p))) HNL.out; have hN := HD.out; generalize (Sp.textAt ev p).take (Sp.colon (Sp.textAt ev p)) = N at *)
      exact ⟨keeps_of hb1 _, hb1.block _ (by omega), acc, _, hstep, hF, e1, e2, e3, cB.trans (hb1.mono cB.size), cS.below hb1 hBW⟩
    · have HD : Hid (((Sp.textAt ev p).take (Sp.colon (Sp.textAt ev p)) == [100, 97, 116, 97]) = true) := hd
      by_cases h0 : acc.fields = 0
      · have hst : Sp.stepL (Sp.textAt ev p) p acc = ⟨1, p + Sp.valAt (Sp.textAt ev p), p + (Sp.textAt ev p).length, Sp.hasCol (Sp.textAt ev p), acc.joined ++ Sp.valOf (Sp.textAt ev p)⟩ := by unfold Sp.stepL; rw [if_pos hd, if_pos h0]
        rw [hst] at hstep
        have HZ : Hid (acc.fields = 0) := h0
        have h0' : ((acc.fields : Int) == 0) = true := by simpa using h0
        clear hst hd h0
        gi_wp2_with (refine ⟨trivial, ?_⟩; gi_at_call 19; refine (CallsIn.inRound l (callsIn_wide.2 HFd.out)).mono ?_; rintro e W1 ⟨⟨v', rfl, hval⟩, hb1⟩; obtain ⟨x, c, rfl, hxc, hcc, hcase⟩ := isVal_slice hval; have HCS := show Hid _ from hcase; clear hcase; have e1 := Boxed.belowK c1 hb1; have e2 := Boxed.belowK c2 hb1; have e3 := Boxed.belowK c3 hb1; have d1 := e1.cell; have d2 := e2.cell; have d3 := e3.cell; have f1 := e1.frozen; have f2 := e2.frozen; have f3 := e3.frozen; have hconv := conv_k W1 B (o + p) _ (Sp.lineLen (ev.drop p)) _ ((hST.below hb1 hBW).take (Sp.colon (Sp.textAt ev p))) HNL.out; have hN := HD.out; generalize (Sp.textAt ev p).take (Sp.colon (Sp.textAt ev p)) = N at *)
        have hbw := hBw (by omega)
        have hvl : (Sp.valOf (Sp.textAt ev p)).length = (Sp.textAt ev p).length - Sp.valAt (Sp.textAt ev p) := by unfold Sp.valOf; rw [List.length_drop]
        have hz := Nat.le_trans hb1.size (Nat.le_refl _)
        have k1 := ((e1.set (.slice x (Sp.valOf (Sp.textAt ev p)).length c)).other (B' := w.heap.size + 1 + 1) (by omega) (.int .i64 ((acc.fields : Int) + 1))).other (B' := w.heap.size + 1) (by omega) (.int .i64 ((acc.joined.length : Int) + ((Sp.valOf (Sp.textAt ev p)).length : Int)))
        have k2 := ((e2.other (B' := w.heap.size) (by omega) (.slice x (Sp.valOf (Sp.textAt ev p)).length c)).other (B' := w.heap.size + 1 + 1) (by omega) (.int .i64 ((acc.fields : Int) + 1))).set (.int .i64 ((acc.joined.length : Int) + ((Sp.valOf (Sp.textAt ev p)).length : Int)))
        have k3 := ((e3.other (B' := w.heap.size) (by omega) (.slice x (Sp.valOf (Sp.textAt ev p)).length c)).set (.int .i64 ((acc.fields : Int) + 1))).other (B' := w.heap.size + 1) (by omega) (.int .i64 ((acc.joined.length : Int) + ((Sp.valOf (Sp.textAt ev p)).length : Int)))
        refine ⟨(((keeps_of hb1 _).trans (keeps_set _ _ _ _)).trans (keeps_set _ _ _ _)).trans (keeps_set _ _ _ _), ?_, _, _, hstep, ?_, k1, box_eq k2 (by simp), box_eq k3 (by have := HZ.out; simp; omega), ?_, (((cS.below hb1 hBW).setCell (by omega) _).setCell (by omega) _).setCell (by omega) _⟩
        · rw [Below.heap_setCell _ _ _ _ (by show w.heap.size + 1 + 1 + 1 ≠ w.heap.size + 1; omega), Below.heap_setCell _ _ _ _ (by show w.heap.size + 1 + 1 + 1 ≠ w.heap.size + 1 + 1; omega), Below.heap_setCell _ _ _ _ (by show w.heap.size + 1 + 1 + 1 ≠ w.heap.size; omega)]
          exact hb1.block _ (by omega)
        · have hfe : p + (Sp.textAt ev p).length - (p + Sp.valAt (Sp.textAt ev p)) = (Sp.valOf (Sp.textAt ev p)).length := by omega
          rcases HCS.out with ⟨q1, rfl, rfl⟩ | ⟨q1, y, rfl, q2⟩
          · exact .inl ⟨q1, by rw [show (Sp.valOf (Sp.textAt ev p)).length = 0 by omega]⟩
          · exact .inr ⟨q1, y, c, by simp only [hfe], by simp only [hfe]; exact hxc, by omega, by simp only [hfe]; intro h; rw [q2 h]; omega⟩
        · exact (((cB.trans (hb1.mono cB.size)).setCell (p := ⟨w.heap.size, 0, none⟩) (Nat.le_refl _) _).setCell (p := ⟨w.heap.size + 1 + 1, 0, none⟩) (by show w.heap.size ≤ w.heap.size + 1 + 1; omega) _).setCell (p := ⟨w.heap.size + 1, 0, none⟩) (by show w.heap.size ≤ w.heap.size + 1; omega) _
      · have hst : Sp.stepL (Sp.textAt ev p) p acc = ⟨acc.fields + 1, acc.fs, acc.fe, acc.col, (acc.joined ++ [10]) ++ Sp.valOf (Sp.textAt ev p)⟩ := by unfold Sp.stepL; rw [if_pos hd, if_neg h0]
        rw [hst] at hstep
        have HZ : Hid (¬ acc.fields = 0) := h0
        have h0' : ((acc.fields : Int) == 0) = false := beq_eq_false_iff_ne.2 (by omega)
        clear hst hd h0
        gi_wp2_with (refine ⟨trivial, ?_⟩; gi_at_call 19; refine (CallsIn.inRound l (callsIn_wide.2 HFd.out)).mono ?_; rintro e W1 ⟨⟨v', rfl, hval⟩, hb1⟩; obtain ⟨x, c, rfl, hxc, hcc, hcase⟩ := isVal_slice hval; have HCS := show Hid _ from hcase; clear hcase; have e1 := Boxed.belowK c1 hb1; have e2 := Boxed.belowK c2 hb1; have e3 := Boxed.belowK c3 hb1; have d1 := e1.cell; have d2 := e2.cell; have d3 := e3.cell; have f1 := e1.frozen; have f2 := e2.frozen; have f3 := e3.frozen; have hconv := conv_k W1 B (o + p) _ (Sp.lineLen (ev.drop p)) _ ((hST.below hb1 hBW).take (Sp.colon (Sp.textAt ev p))) HNL.out; have hN := HD.out; generalize (Sp.textAt ev p).take (Sp.colon (Sp.textAt ev p)) = N at *)
        have hbw := hBw (by omega)
        have hz := Nat.le_trans hb1.size (Nat.le_refl _)
        have k1 := ((e1.other (B' := w.heap.size + 1) (by omega) (.int .i64 ((acc.joined.length : Int) + 1))).other (B' := w.heap.size + 1 + 1) (by omega) (.int .i64 ((acc.fields : Int) + 1))).other (B' := w.heap.size + 1) (by omega) (.int .i64 ((acc.joined.length : Int) + 1 + ((Sp.valOf (Sp.textAt ev p)).length : Int)))
        have k2 := ((e2.set (.int .i64 ((acc.joined.length : Int) + 1))).other (B' := w.heap.size + 1 + 1) (by omega) (.int .i64 ((acc.fields : Int) + 1))).set (.int .i64 ((acc.joined.length : Int) + 1 + ((Sp.valOf (Sp.textAt ev p)).length : Int)))
        have k3 := ((e3.other (B' := w.heap.size + 1) (by omega) (.int .i64 ((acc.joined.length : Int) + 1))).set (.int .i64 ((acc.fields : Int) + 1))).other (B' := w.heap.size + 1) (by omega) (.int .i64 ((acc.joined.length : Int) + 1 + ((Sp.valOf (Sp.textAt ev p)).length : Int)))
        refine ⟨(((keeps_of hb1 _).trans (keeps_set _ _ _ _)).trans (keeps_set _ _ _ _)).trans (keeps_set _ _ _ _), ?_, _, _, hstep, hF, k1, box_eq k2 (by simp; omega), box_eq k3 (by simp), ?_, (((cS.below hb1 hBW).setCell (by omega) _).setCell (by omega) _).setCell (by omega) _⟩
        · rw [Below.heap_setCell _ _ _ _ (by show w.heap.size + 1 + 1 + 1 ≠ w.heap.size + 1; omega), Below.heap_setCell _ _ _ _ (by show w.heap.size + 1 + 1 + 1 ≠ w.heap.size + 1 + 1; omega), Below.heap_setCell _ _ _ _ (by show w.heap.size + 1 + 1 + 1 ≠ w.heap.size + 1; omega)]
          exact hb1.block _ (by omega)
        · exact (((cB.trans (hb1.mono cB.size)).setCell (p := ⟨w.heap.size + 1, 0, none⟩) (by show w.heap.size ≤ w.heap.size + 1; omega) _).setCell (p := ⟨w.heap.size + 1 + 1, 0, none⟩) (by show w.heap.size ≤ w.heap.size + 1 + 1; omega) _).setCell (p := ⟨w.heap.size + 1, 0, none⟩) (by show w.heap.size ≤ w.heap.size + 1; omega) _
  case done =>
    rintro D W hD ⟨acc, v, hA, hF, c1, c2, c3, cB, cS⟩ hK
    obtain ⟨fx, fn, fc, rfl⟩ := isFirst_slice hF
    have d1 := c1.cell
    have d2 := c2.cell
    have d3 := c3.cell
    have f1 := c1.frozen
    have f2 := c2.frozen
    have f3 := c3.frozen
    gi_wp2
    gi_region
    gi_wp2
    clear d1 d2 d3 f1 f2 f3
    have hK5 : ((((W.setCell ⟨w.heap.size, 0, none⟩ (.slice fx fn fc)).setCell ⟨w.heap.size + 1, 0, none⟩ (.int .i64 (acc.joined.length : Nat))).setCell ⟨w.heap.size + 1 + 1, 0, none⟩ (.int .i64 (acc.fields : Nat))).drew).heap[D]? = some (.deferred (some [])) := by
      show (((W.setCell ⟨w.heap.size, 0, none⟩ (.slice fx fn fc)).setCell ⟨w.heap.size + 1, 0, none⟩ (.int .i64 (acc.joined.length : Nat))).setCell ⟨w.heap.size + 1 + 1, 0, none⟩ (.int .i64 (acc.fields : Nat))).heap[D]? = _
      rw [Below.heap_setCell _ _ _ _ (by show D ≠ w.heap.size + 1 + 1; omega), Below.heap_setCell _ _ _ _ (by show D ≠ w.heap.size + 1; omega), Below.heap_setCell _ _ _ _ (by show D ≠ w.heap.size; omega)]; exact hK
    refine ⟨by simp, .inl ⟨_, _, rfl, run_takeDeferred hK5, ?_⟩⟩
    have e1 := ((c1.set (.slice fx fn fc)).other (B' := w.heap.size + 1) (by omega) (.int .i64 (acc.joined.length : Nat))).other (B' := w.heap.size + 1 + 1) (by omega) (.int .i64 (acc.fields : Nat))
    have e2 := ((c2.other (B' := w.heap.size) (by omega) (.slice fx fn fc)).set (.int .i64 (acc.joined.length : Nat))).other (B' := w.heap.size + 1 + 1) (by omega) (.int .i64 (acc.fields : Nat))
    have e3 := ((c3.other (B' := w.heap.size) (by omega) (.slice fx fn fc)).other (B' := w.heap.size + 1) (by omega) (.int .i64 (acc.joined.length : Nat))).set (.int .i64 (acc.fields : Nat))
    have eB := ((cB.setCell (p := ⟨w.heap.size, 0, none⟩) (Nat.le_refl _) (.slice fx fn fc)).setCell (p := ⟨w.heap.size + 1, 0, none⟩) (by show w.heap.size ≤ w.heap.size + 1; omega) (.int .i64 (acc.joined.length : Nat))).setCell (p := ⟨w.heap.size + 1 + 1, 0, none⟩) (by show w.heap.size ≤ w.heap.size + 1 + 1; omega) (.int .i64 (acc.fields : Nat))
    have hk6 := Kept.put (n₀ := w.heap.size + 4) (Bn := w.heap.size + 3) (by omega) hK5 rfl (.deferred none)
    have g1 := (Boxed.keptK (n₀ := w.heap.size + 4) (Bn := w.heap.size + 3) (Boxed.drewK e1) hk6 (by omega) (by omega)).cell
    have g2 := (Boxed.keptK (n₀ := w.heap.size + 4) (Bn := w.heap.size + 3) (Boxed.drewK e2) hk6 (by omega) (by omega)).cell
    have g3 := (Boxed.keptK (n₀ := w.heap.size + 4) (Bn := w.heap.size + 3) (Boxed.drewK e3) hk6 (by omega) (by omega)).cell
    have gB := Below.keptK (Below.drew eB) hk6 (by omega) (by omega)
    clear e1 e2 e3 eB hk6 hK5
    refine ⟨.tuple #[.slice fx fn fc, .int .i64 (acc.joined.length : Nat), .int .i64 (acc.fields : Nat)], ?_, ⟨acc, _, hA, rfl, hF⟩, gB⟩
    clear gB
    generalize World.putObj _ D (.deferred none) = W6 at *
    simp [results, Try.results16, go_sem, g1, g2, g3]

end Go.Proofs.Qxb6605680a
