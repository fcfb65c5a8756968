/-
  Seat b6605680a: THE WALK OF sse.joinData (17).
-/
import Derived.Test.Qxb6605680aData
import Derived.Deep.Upon
namespace Go.Proofs.Qxb6605680a
open Go.RowKit Go.Shelf
attribute [local go_sem] Oper.semAt_some

theorem info5 : (Try.prog.info? 5).map (fun i => (i.zero, i.size, i.bytes)) = some (some (.int .u8 0), 1, 1) := by kernel_rfl

/-- bytes as cells -/
def cellsOf (l : List UInt8) : List Value := l.map fun b => Value.int .u8 (b.toNat : Int)
theorem cellsOf_length (l : List UInt8) : (cellsOf l).length = l.length := List.length_map _
theorem cellsOf_append (a b : List UInt8) : cellsOf (a ++ b) = cellsOf a ++ cellsOf b := List.map_append
theorem cellsOf_one (l : List UInt8) : ∀ u ∈ cellsOf l, u.oneCell' = true := by
  intro u hu
  obtain ⟨b, _, rfl⟩ := List.mem_map.1 hu
  rfl
theorem cellsOf_at (l : List UInt8) (j : Nat) (u : Value) (h : (cellsOf l)[j]? = some u) : j < l.length ∧ u = .int .u8 (Sp.bt l j) := by
  have hj : j < l.length := by have := (List.getElem?_eq_some_iff.1 h).1; rwa [cellsOf_length] at this
  refine ⟨hj, ?_⟩
  simp only [cellsOf, List.getElem?_map, List.getElem?_eq_getElem hj, Option.map_some, Option.some.injEq] at h
  rw [← h]; unfold Sp.bt; rw [List.getElem?_eq_getElem hj]; rfl

theorem make_any (w : World) (c : Nat) (hc : c ≤ 140737488355328) : ∃ C : Array Value, C.size = c ∧ (Instr.makeSlice 22 (.int .i64 0) (.int .i64 (c : Int))).run Try.prog w = .ok (.slice (some ⟨w.heap.size, 0, none⟩) 0 c) (w.alloc (.cells C 5)) := by
  obtain ⟨i0, hi, hz0, hz1, hz2⟩ := info_parts info5
  have := run_make (P := Try.prog) w 22 5 i0 _ Try.underlying22 hi hz0 .i64 .i64 0 c (by omega) (by omega) (by rw [hz2]; omega) (by omega)
  simp only [Int.toNat_zero, Int.toNat_natCast, hz1, Nat.mul_one] at this
  exact ⟨_, size_madeCells _ _, this⟩

/-- an owned row whose block is named -/
def OwnsAt (W : World) (g cap : Nat) (l : List UInt8) : Prop := W.ownsRow g 5 1 (.slice (some ⟨g, 0, none⟩) l.length cap) l.length (cellsOf l)

theorem OwnsAt.same {W W' : World} {g cap : Nat} {l : List UInt8} (h : OwnsAt W g cap l) (hk : W'.heap[g]? = W.heap[g]?) : OwnsAt W' g cap l := by
  obtain ⟨h1, h2⟩ := h
  refine ⟨h1, ?_⟩
  rcases h2 with ⟨h, _⟩ | ⟨g', cap', cur, hv, hb, hg, hr⟩
  · cases h
  · refine .inr ⟨g', cap', cur, hv, hb, ?_, hr⟩
    cases hv
    rw [hk]; exact hg

theorem OwnsAt.seg {W : World} {g cap : Nat} {l : List UInt8} (h : OwnsAt W g cap l) : Seg W g 0 l := by
  obtain ⟨h1, h2⟩ := h
  rcases h2 with ⟨h, _⟩ | ⟨g', cap', cur, hv, hb, hg, _, _, hc, ht⟩
  · cases h
  · cases hv
    intro i hi
    have e : cur[i]? = (cellsOf l)[i]? := by
      rw [← ht, List.getElem?_take, if_pos (by omega)]; simp
    rw [Nat.zero_add]
    unfold World.cell?
    rw [show W.heap[(⟨g, i, none⟩ : Addr).block]? = some (.cells cur 5 (0, 0)) from hg]
    simp only [e]
    simp [cellsOf, Sp.bt, hi]

/-- what is appended: nil, or bytes that lie somewhere -/
def SrcAt (W : World) (xo : Option Addr) (c : Nat) (l : List UInt8) : Prop := (xo = none ∧ c = 0 ∧ l = []) ∨ ∃ B y, xo = some ⟨B, y, none⟩ ∧ Seg W B y l

/-- 'append(dst, src...)' where there is room, dst a row of the call's own -/
theorem wpListIn_app {F : Fence} {n : Nat} (w : World) {ops : Array Oper} {rest : List Oper} {o : Oper} {a : Act} {Q : Exit → Act → World → Prop} (hgd : o.guard = none) (s x : Operand)
    (hop : o.op = Op.call { callee := Callee.builtin Builtin.append, args := #[s, x], argTypes := #[22, 22] }) (g cap kl : Nat) (l l' : List UInt8) (hkl : kl = l.length) (hs : a.eval s = .slice (some ⟨g, 0, none⟩) kl cap) (hown : OwnsAt w g cap l)
    (xo : Option Addr) (c k : Nat) (hk : k = l'.length) (hx : a.eval x = .slice xo k c) (hsrc : SrcAt w xo c l') (hroom : l.length + l'.length ≤ cap)
    (hK : ∀ w', OwnsAt w' g cap (l ++ l') → w.grownBy w' (some g) → wpListIn F n Try.prog ops Q rest (a.put o.dst (.slice (some ⟨g, 0, none⟩) (kl + k) cap)) w') :
    wpListIn F n Try.prog ops Q (o :: rest) a w := by
  obtain ⟨i0, hi, hz0, hz1, hz2⟩ := info_parts info5
  subst hk
  subst hkl
  rcases hsrc with ⟨rfl, rfl, rfl⟩ | ⟨B, y, rfl, hseg⟩
  · refine wpListIn_plain hgd fun K hK' => ?_
    have hrun := run_append_nothing (P := Try.prog) w 22 22 o.type 5 i0 Try.underlying22 hi (some ⟨g, 0, none⟩) l.length cap (by simpa using hroom) (.slice none 0 0) (by rw [hz1]; exact Src.ofNil w Try.underlying22 0)
    unfold Oper.wpIn
    refine ⟨?_, ?_⟩
    · simp [Oper.about, hop, resolve, Target.leads, Sem.run_pure]
    · rw [Oper.semAt_plain F _ _ (by rw [hop]; intro c hc'; cases hc')]
      simp only [List.length_nil] at hx
      simp [execOp, hop, resolve, invoke, builtin, hs, hx, hrun, Result.andThen]
      exact hK' _ _ (hK w (by simpa using hown) ⟨rfl, rfl, rfl, Nat.le_refl _, fun _ _ _ => rfl⟩)
  · refine wpListIn_append_fits w hgd s x 22 hop g 5 i0 1 Try.underlying22 hi hz1 g l.length cap (cellsOf l) hs hown ⟨B, y, none⟩ l'.length c (cellsOf l') hx (by rw [cellsOf_length]; omega) ?_ (cellsOf_one l') hroom ?_
    · intro j u hu
      obtain ⟨hj, rfl⟩ := cellsOf_at l' j u hu
      rw [add_addr]; exact hseg j hj
    · intro w' ho hg'
      refine hK w' ?_ hg'
      unfold OwnsAt
      rw [List.length_append, cellsOf_append]
      exact ho

theorem src_of {W : World} {B o c : Nat} {T : List UInt8} {x : Option Addr} (hS : Seg W B o T) (hxc : (Sp.valOf T).length ≤ c)
    (h : (Sp.hasCol T = false ∧ x = none ∧ c = 0) ∨ (Sp.hasCol T = true ∧ ∃ y, x = some ⟨B, y, none⟩ ∧ (0 < (Sp.valOf T).length → y = o + Sp.valAt T))) : SrcAt W x c (Sp.valOf T) := by
  rcases h with ⟨_, rfl, rfl⟩ | ⟨_, y, rfl, hy⟩
  · exact .inl ⟨rfl, rfl, List.eq_nil_of_length_eq_zero (by omega)⟩
  · refine .inr ⟨B, y, rfl, ?_⟩
    by_cases h0 : 0 < (Sp.valOf T).length
    · rw [hy h0]
      have := hS.sub (Sp.valAt T) (T.drop (Sp.valAt T)).length
      rw [List.take_length] at this
      exact this
    · intro i hi; omega
theorem blk_of {B o c : Nat} {T : List UInt8} {x : Option Addr}
    (h : (Sp.hasCol T = false ∧ x = none ∧ c = 0) ∨ (Sp.hasCol T = true ∧ ∃ y, x = some ⟨B, y, none⟩ ∧ (0 < (Sp.valOf T).length → y = o + Sp.valAt T))) : ∀ a, x = some a → a.block = B := by
  intro a ha
  rcases h with ⟨_, h, _⟩ | ⟨_, y, h, _⟩
  · rw [h] at ha; cases ha
  · rw [h] at ha; cases ha; rfl
theorem tmp_src (W : World) : SrcAt (W.alloc (.cells #[.int .u8 10] 5)) (some ⟨W.heap.size, 0, none⟩) 1 [10] := by
  refine .inr ⟨W.heap.size, 0, rfl, ?_⟩
  intro i hi
  obtain rfl : i = 0 := by simp at hi; omega
  have := (Boxed.new W 5 (.int .u8 10)).cell
  exact this
theorem box_slice {W : World} {b : Nat} {t : TypeId} {a : Option Addr} {k k' c : Nat} (h : Boxed W b t (.slice a k c)) (e : k = k') : Boxed W b t (.slice a k' c) := e ▸ h
theorem ne_some {a b : Nat} (h : a ≠ b) : some a ≠ some b := fun e => h (by cases e; rfl)
theorem SrcAt.alloc {W : World} {x : Option Addr} {c : Nat} {l : List UInt8} (h : SrcAt W x c l) (o : Obj) : SrcAt (W.alloc o) x c l := by
  rcases h with h | ⟨B, y, rfl, hs⟩
  · exact .inl h
  · exact .inr ⟨B, y, rfl, hs.alloc _⟩
theorem SrcAt.grown {W W' : World} {x : Option Addr} {c g : Nat} {l : List UInt8} (h : SrcAt W x c l) (hg : W.grownBy W' (some g)) (hne : ∀ a, x = some a → 0 < l.length → a.block ≠ g) : SrcAt W' x c l := by
  rcases h with h | ⟨B, y, rfl, hs⟩
  · exact .inl h
  · refine .inr ⟨B, y, rfl, ?_⟩
    by_cases h0 : 0 < l.length
    · exact hs.same (hg.block B (hs.block h0) (by have := hne _ rfl h0; simpa using this))
    · intro i hi; omega
theorem SrcAt.set {W : World} {x : Option Addr} {c b : Nat} {l : List UInt8} (h : SrcAt W x c l) (v : Value) (hne : ∀ a, x = some a → 0 < l.length → a.block ≠ b) : SrcAt (W.setCell ⟨b, 0, none⟩ v) x c l :=
  h.grown (grownBy_setCell' W b v) hne
theorem OwnsAt.alloc {W : World} {g cap : Nat} {l : List UInt8} (h : OwnsAt W g cap l) (o : Obj) : OwnsAt (W.alloc o) g cap l := by
  refine h.same (Below.heap_alloc W o g ?_)
  obtain ⟨h1, h2⟩ := h
  rcases h2 with ⟨h, _⟩ | ⟨g', cap', cur, hv, hb, hg, _⟩
  · cases h
  · cases hv; exact (Array.getElem?_eq_some_iff.1 hg).1
theorem OwnsAt.set {W : World} {g cap b : Nat} {l : List UInt8} (h : OwnsAt W g cap l) (hb : g ≠ b) (v : Value) : OwnsAt (W.setCell ⟨b, 0, none⟩ v) g cap l := h.same (Below.heap_setCell _ _ _ _ hb)
theorem keeps_grown {W W' : World} {g n₀ : Nat} (hg : W.grownBy W' (some g)) (hn : g < n₀) : KeepsFrom n₀ W W' := KeepsFrom.of_grownBy hg (fun j e => by cases e; exact hn)

set_option maxRecDepth 100000 in
set_option maxHeartbeats 1000000 in
theorem joinData_any (v0 : Option Addr) (B o cap : Nat) (ev : List UInt8) (b : Sp.Acc) (w : World) (hcap : ev.length ≤ cap) (hbd : ev.length ≤ 140737488355328) (hm : cap ≤ 9223372036854775807) (hv : 0 < ev.length → v0 = some ⟨B, o, none⟩) (hs : Seg w B o ev) (hfin : Sp.Fin ev b) :
    Calls Try.prog 17 #[.slice v0 ev.length cap, .int .i64 (b.joined.length : Nat)] w fun e w' =>
      e = .returned (.slice (some ⟨w.heap.size, 0, none⟩) b.joined.length b.joined.length) ∧ OwnsAt w' w.heap.size b.joined.length b.joined ∧ Below w.heap.size w w' := by
  have hBw : 0 < ev.length → B < w.heap.size := fun h => hs.block h
  have hbl := (Sp.at_ok hfin).len
  have Hfin : Hid (Sp.Fin ev b) := hfin
  obtain ⟨m, Hm⟩ : ∃ m, Hid (m = b.joined.length) := ⟨_, rfl⟩
  have hmb : m ≤ ev.length := by have := Hm.out; omega
  rw [← Hm.out]
  obtain ⟨C, hCs, hmk⟩ := make_any w m (by omega)
  refine (callsIn_wide (n := 4)).1 ?_
  refine callsIn_of_wp_marks Try.func17 rfl trivial ?_ rfl
  simp only [Try.ntmps17, List.size_toArray, List.length_cons, List.length_nil, Nat.reduceAdd, Nat.reduceSub, Array.replicate_succ, Array.replicate_zero, List.push_toArray, List.append_toArray, List.nil_append, List.cons_append]
  gi_wp2_with (refine ⟨trivial, ?_⟩; gi_at_call 18; refine (callsIn_wide.2 (lines_any _ _ _ _)).mono ?_; rintro e w' ⟨rfl, rfl⟩)
  have hb1 : Boxed ((((w.alloc (Obj.cells C 5)).alloc (Obj.cells #[Value.slice (some ⟨w.heap.size, 0, none⟩) 0 m] 22)).alloc (Obj.cells #[Value.int IntKind.i64 0] 3)).alloc (Obj.cells #[Value.slice v0 ev.length cap] 22)) (w.heap.size + 1) 22 (.slice (some ⟨w.heap.size, 0, none⟩) 0 m) := by
    have := Boxed.new (w.alloc (Obj.cells C 5)) 22 (.slice (some ⟨w.heap.size, 0, none⟩) 0 m)
    rw [World.size_alloc] at this
    exact (this.alloc _).alloc _
  have hb3 : Boxed ((((w.alloc (Obj.cells C 5)).alloc (Obj.cells #[Value.slice (some ⟨w.heap.size, 0, none⟩) 0 m] 22)).alloc (Obj.cells #[Value.int IntKind.i64 0] 3)).alloc (Obj.cells #[Value.slice v0 ev.length cap] 22)) (w.heap.size + 1 + 1) 3 (.int .i64 0) := by
    have := Boxed.new ((w.alloc (Obj.cells C 5)).alloc (Obj.cells #[Value.slice (some ⟨w.heap.size, 0, none⟩) 0 m] 22)) 3 (.int .i64 0)
    rw [World.size_alloc, World.size_alloc] at this
    exact this.alloc _
  have hb4 : Boxed ((((w.alloc (Obj.cells C 5)).alloc (Obj.cells #[Value.slice (some ⟨w.heap.size, 0, none⟩) 0 m] 22)).alloc (Obj.cells #[Value.int IntKind.i64 0] 3)).alloc (Obj.cells #[Value.slice v0 ev.length cap] 22)) (w.heap.size + 1 + 1 + 1) 22 (.slice v0 ev.length cap) := by
    have := Boxed.new (((w.alloc (Obj.cells C 5)).alloc (Obj.cells #[Value.slice (some ⟨w.heap.size, 0, none⟩) 0 m] 22)).alloc (Obj.cells #[Value.int IntKind.i64 0] 3)) 22 (.slice v0 ev.length cap)
    rw [World.size_alloc, World.size_alloc, World.size_alloc] at this
    exact this
  have hrow : OwnsAt ((((w.alloc (Obj.cells C 5)).alloc (Obj.cells #[Value.slice (some ⟨w.heap.size, 0, none⟩) 0 m] 22)).alloc (Obj.cells #[Value.int IntKind.i64 0] 3)).alloc (Obj.cells #[Value.slice v0 ev.length cap] 22)) w.heap.size m [] := by
    refine ⟨rfl, .inr ⟨w.heap.size, m, C, rfl, Nat.le_refl _, ?_, Nat.zero_le _, by unfold maxLen; omega, by omega, by simp [cellsOf]⟩⟩
    rw [Below.heap_alloc _ _ _ (by simp; omega), Below.heap_alloc _ _ _ (by simp; omega), Below.heap_alloc _ _ _ (by simp)]
    exact World.alloc_heap_new w _
  have hbB : Below w.heap.size w ((((w.alloc (Obj.cells C 5)).alloc (Obj.cells #[Value.slice (some ⟨w.heap.size, 0, none⟩) 0 m] 22)).alloc (Obj.cells #[Value.int IntKind.i64 0] 3)).alloc (Obj.cells #[Value.slice v0 ev.length cap] 22)) :=
    ((((Below.refl _ w).alloc (Nat.le_refl _) _).alloc (by simp) _).alloc (by simp; omega) _).alloc (by simp; omega) _
  have hsS : Seg ((((w.alloc (Obj.cells C 5)).alloc (Obj.cells #[Value.slice (some ⟨w.heap.size, 0, none⟩) 0 m] 22)).alloc (Obj.cells #[Value.int IntKind.i64 0] 3)).alloc (Obj.cells #[Value.slice v0 ev.length cap] 22)) B o ev := (((hs.alloc _).alloc _).alloc _).alloc _
  have hsz : (((((w.alloc (Obj.cells C 5)).alloc (Obj.cells #[Value.slice (some ⟨w.heap.size, 0, none⟩) 0 m] 22)).alloc (Obj.cells #[Value.int IntKind.i64 0] 3)).alloc (Obj.cells #[Value.slice v0 ev.length cap] 22))).heap.size = w.heap.size + 4 := by simp
  generalize ((((w.alloc (Obj.cells C 5)).alloc (Obj.cells #[Value.slice (some ⟨w.heap.size, 0, none⟩) 0 m] 22)).alloc (Obj.cells #[Value.int IntKind.i64 0] 3)).alloc (Obj.cells #[Value.slice v0 ev.length cap] 22)) = W0 at *
  clear hmk hCs
  refine wpIn_lines (w.heap.size + 1 + 1 + 1) B o cap ev (by omega) hm rfl rfl (by omega)
    (fun p W => ∃ acc, Sp.At ev p acc ∧ Boxed W (w.heap.size + 1) 22 (.slice (some ⟨w.heap.size, 0, none⟩) acc.joined.length m) ∧ OwnsAt W w.heap.size m acc.joined ∧ Boxed W (w.heap.size + 1 + 1) 3 (.int .i64 (acc.fields : Nat)) ∧ Below w.heap.size w W ∧ Seg W B o ev)
    ?stay ?seg ⟨v0, cap, hb4.cell, hb4.frozen, by omega, by omega, fun h => by simpa using hv (by omega)⟩ ⟨Sp.acc0, Sp.at0 ev, hb1, hrow, hb3, hbB, hsS⟩
    (fun p => { tmps := #[.slice v0 ev.length cap, .int .i64 (m : Nat), undef, undef, .slice none 0 0, .pointer (some ⟨w.heap.size + 1, 0, none⟩), .pointer (some ⟨w.heap.size + 1 + 1, 0, none⟩), .slice (some ⟨B, o + p, none⟩) (Sp.lineLen (ev.drop p)) (Sp.lineLen (ev.drop p)), undef, undef, .int .i64 (m : Nat), .slice (some ⟨w.heap.size, 0, none⟩) 0 m, .slice v0 ev.length cap, .func (.func 20) #[] #[.pointer (some ⟨w.heap.size + 1 + 1 + 1, 0, none⟩)], .slice (some ⟨B, o + p, none⟩) (Sp.lineLen (ev.drop p)) (Sp.lineLen (ev.drop p)), undef, undef, undef, undef, undef, undef, undef, undef, undef, undef, undef, undef, undef, undef, undef, undef, undef, undef, undef], defers := [] }) ?assign ?body ?done
  case stay =>
    rintro p W W' ⟨acc, hA, c1, cR, c3, cB, cS⟩ hk
    rw [hsz] at hk
    exact ⟨acc, hA, Boxed.keptK c1 hk (by omega) (by omega), cR.same (hk.low _ (by omega) (by omega)), Boxed.keptK c3 hk (by omega) (by omega), Below.keptK cB hk (by omega) (by omega), cS.keptK hk (fun h => by have := hBw h; omega)⟩
  case seg =>
    rintro p W ⟨acc, hA, c1, cR, c3, cB, cS⟩
    exact ⟨Sp.at_le hA, cS⟩
  case assign =>
    intro l p W K hK
    gi_wp2
    exact hK
  case body =>
    rintro l p W hp ⟨acc, hA, c1, cR, c3, cB, cS⟩ hle
    have hok := Sp.at_ok hA
    have hlin : (Sp.lineAt ev p).length = Sp.lineLen (ev.drop p) := by
      unfold Sp.lineAt; rw [List.length_take]; have := Sp.lineLen_le (ev.drop p); omega
    have hBW : B < W.heap.size := cS.block (by omega)
    have hll := Sp.lineLen_le (ev.drop p)
    rw [List.length_drop] at hll
    have HFd : Hid (Calls Try.prog 19 #[.slice (some ⟨B, o + p, none⟩) (Sp.lineLen (ev.drop p)) (Sp.lineLen (ev.drop p))] W fun e w' =>
        (∃ v, e = .returned (.tuple #[.slice (some ⟨B, o + p, none⟩) (Sp.colon (Sp.textAt ev p)) (Sp.lineLen (ev.drop p)), v]) ∧ IsVal B (o + p) (Sp.lineLen (ev.drop p)) (Sp.textAt ev p) v) ∧ Below W.heap.size W w') :=
      field_k B (o + p) _ _ (Sp.lineAt ev p) (Sp.textAt ev p) W hlin.symm rfl (by omega) (by omega) (cS.sub p _)
    have hST : Seg W B (o + p) (Sp.textAt ev p) := (cS.sub p _).take _
    have hstep := Sp.at_step hA hp
    have HNL : Hid (Sp.colon (Sp.textAt ev p) = ((Sp.textAt ev p).take (Sp.colon (Sp.textAt ev p))).length) := by unfold Hid; rw [List.length_take]; have := Sp.colon_le (Sp.textAt ev p); omega
    have hjl := hok.len
    have hmono := Sp.at_mono hstep Hfin.out
    rw [← Hm.out] at hmono
    cases hd : Sp.isData (Sp.textAt ev p)
    · have HD : Hid (((Sp.textAt ev p).take (Sp.colon (Sp.textAt ev p)) == [100, 97, 116, 97]) = false) := hd
      have hst : Sp.stepL (Sp.textAt ev p) p acc = acc := by unfold Sp.stepL; rw [if_neg (by rw [hd]; simp)]
      rw [hst] at hstep
      clear hst hd hmono
      gi_wp2_with (refine ⟨trivial, ?_⟩; gi_at_call 19; refine (CallsIn.inRound l (callsIn_wide.2 HFd.out)).mono ?_; rintro e W1 ⟨⟨v', rfl, hval⟩, hb1⟩; obtain ⟨x, c, rfl, hxc, hcc, hcase⟩ := isVal_slice hval; have HCS := show Hid _ from hcase; clear hcase; have e1 := Boxed.belowK c1 hb1; have e3 := Boxed.belowK c3 hb1; have eR := cR.same (hb1.block _ (by omega)); have d1 := e1.cell; have d3 := e3.cell; have f1 := e1.frozen; have f3 := e3.frozen; have hconv := conv_k W1 B (o + p) _ (Sp.lineLen (ev.drop p)) _ ((hST.below hb1 hBW).take (Sp.colon (Sp.textAt ev p))) HNL.out; have hN := HD.out; generalize (Sp.textAt ev p).take (Sp.colon (Sp.textAt ev p)) = N at *)
      exact ⟨keeps_of hb1 _, hb1.block _ (by omega), acc, hstep, e1, eR, e3, cB.trans (hb1.mono cB.size), cS.below hb1 hBW⟩
    · have HD : Hid (((Sp.textAt ev p).take (Sp.colon (Sp.textAt ev p)) == [100, 97, 116, 97]) = true) := hd
      by_cases h0 : acc.fields = 0
      · have hst : Sp.stepL (Sp.textAt ev p) p acc = ⟨1, p + Sp.valAt (Sp.textAt ev p), p + (Sp.textAt ev p).length, Sp.hasCol (Sp.textAt ev p), acc.joined ++ Sp.valOf (Sp.textAt ev p)⟩ := by unfold Sp.stepL; rw [if_pos hd, if_pos h0]
        rw [hst] at hstep hmono
        simp only [List.length_append] at hmono
        have HZ : Hid (acc.fields = 0) := h0
        have h0' : (acc.fields : Int) ≤ 0 := by omega
        clear hst hd h0
        gi_wp2_with (first
          | (refine ⟨trivial, ?_⟩; gi_at_call 19; refine (CallsIn.inRound l (callsIn_wide.2 HFd.out)).mono ?_; rintro e W1 ⟨⟨v', rfl, hval⟩, hb1⟩; obtain ⟨x, c, rfl, hxc, hcc, hcase⟩ := isVal_slice hval; have hsrc := src_of (hST.below hb1 hBW) hxc hcase; have HxB := show Hid _ from blk_of hcase; clear hcase; have e1 := Boxed.belowK c1 hb1; have e3 := Boxed.belowK c3 hb1; have eR := cR.same (hb1.block _ (by omega)); have d1 := e1.cell; have d3 := e3.cell; have f1 := e1.frozen; have f3 := e3.frozen; have hconv := conv_k W1 B (o + p) _ (Sp.lineLen (ev.drop p)) _ ((hST.below hb1 hBW).take (Sp.colon (Sp.textAt ev p))) HNL.out; have hN := HD.out; generalize (Sp.textAt ev p).take (Sp.colon (Sp.textAt ev p)) = N at *)
          | (gi_at_builtin; refine wpListIn_app _ rfl _ _ rfl w.heap.size m _ acc.joined (Sp.valOf (Sp.textAt ev p)) rfl rfl eR x c _ rfl rfl hsrc hmono ?_; intro W2 oR hg2; have e1' := e1.kept hg2 (ne_some (by omega)); have e3' := e3.kept hg2 (ne_some (by omega)); have d1' := e1'.cell; have d3' := e3'.cell; have f1' := e1'.frozen; have f3' := e3'.frozen))
        have hbw := hBw (by omega)
        have hz := hb1.size
        have hl2 : (acc.joined ++ Sp.valOf (Sp.textAt ev p)).length = acc.joined.length + (Sp.valOf (Sp.textAt ev p)).length := List.length_append
        have k1 := (e1'.set (.slice (some ⟨w.heap.size, 0, none⟩) (acc.joined.length + (Sp.valOf (Sp.textAt ev p)).length) m)).other (B' := w.heap.size + 1 + 1) (by omega) (.int .i64 ((acc.fields : Int) + 1))
        have k3 := (e3'.other (B' := w.heap.size + 1) (by omega) (.slice (some ⟨w.heap.size, 0, none⟩) (acc.joined.length + (Sp.valOf (Sp.textAt ev p)).length) m)).set (.int .i64 ((acc.fields : Int) + 1))
        refine ⟨(((keeps_of hb1 _).trans (keeps_grown hg2 (by omega))).trans (keeps_set _ _ _ _)).trans (keeps_set _ _ _ _), ?_, _, hstep, box_slice k1 hl2.symm, (oR.set (by omega) _).set (by omega) _, box_eq k3 (by have := HZ.out; simp; omega), ?_, ?_⟩
        · rw [Below.heap_setCell _ _ _ _ (by show w.heap.size + 1 + 1 + 1 ≠ w.heap.size + 1 + 1; omega), Below.heap_setCell _ _ _ _ (by show w.heap.size + 1 + 1 + 1 ≠ w.heap.size + 1; omega), hg2.block _ (by omega) (ne_some (by omega))]
          exact hb1.block _ (by omega)
        · exact (((cB.trans (hb1.mono cB.size)).grown hg2 (by omega) (fun k e => by cases e; exact Nat.le_refl _)).setCell (p := ⟨w.heap.size + 1, 0, none⟩) (by show w.heap.size ≤ w.heap.size + 1; omega) _).setCell (p := ⟨w.heap.size + 1 + 1, 0, none⟩) (by show w.heap.size ≤ w.heap.size + 1 + 1; omega) _
        · exact ((((cS.below hb1 hBW).same (hg2.block B (by omega) (ne_some (by omega)))).setCell (by omega) _).setCell (by omega) _)
      · have hst : Sp.stepL (Sp.textAt ev p) p acc = ⟨acc.fields + 1, acc.fs, acc.fe, acc.col, (acc.joined ++ [10]) ++ Sp.valOf (Sp.textAt ev p)⟩ := by unfold Sp.stepL; rw [if_pos hd, if_neg h0]
        rw [hst] at hstep hmono
        simp only [List.length_append, List.length_cons, List.length_nil, Nat.zero_add] at hmono
        have HZ : Hid (¬ acc.fields = 0) := h0
        have h0' : 0 < (acc.fields : Int) := by omega
        have hbw := hBw (by omega)
        have tok : True := trivial
        clear hst hd h0
        gi_wp2_with (first
          | (refine ⟨trivial, ?_⟩; gi_at_call 19; refine (CallsIn.inRound l (callsIn_wide.2 HFd.out)).mono ?_; rintro e W1 ⟨⟨v', rfl, hval⟩, hb1⟩; obtain ⟨x, c, rfl, hxc, hcc, hcase⟩ := isVal_slice hval; have hsrc := src_of (hST.below hb1 hBW) hxc hcase; have HxB := show Hid _ from blk_of hcase; clear hcase; have e1 := Boxed.belowK c1 hb1; have e3 := Boxed.belowK c3 hb1; have eR := cR.same (hb1.block _ (by omega)); have d1 := e1.cell; have d3 := e3.cell; have f1 := e1.frozen; have f3 := e3.frozen; have hconv := conv_k W1 B (o + p) _ (Sp.lineLen (ev.drop p)) _ ((hST.below hb1 hBW).take (Sp.colon (Sp.textAt ev p))) HNL.out; have hN := HD.out; generalize (Sp.textAt ev p).take (Sp.colon (Sp.textAt ev p)) = N at *)
          | (gi_at_builtin; have _t := tok; refine wpListIn_app _ rfl _ _ rfl w.heap.size m _ acc.joined [10] rfl rfl (eR.alloc _) _ 1 1 rfl rfl (tmp_src W1) (by simp; omega) ?_; intro W2 oR hg2; clear tok; have e1' := (e1.alloc _).kept hg2 (ne_some (by omega)); have e3' := (e3.alloc _).kept hg2 (ne_some (by omega)); have hsrc2 := (hsrc.alloc _).grown hg2 (fun a ha _ => by have := HxB.out a ha; omega); have oR2 := oR.set (b := w.heap.size + 1) (by omega) (.slice (some ⟨w.heap.size, 0, none⟩) (acc.joined.length + 1) m); have hsrc3 := hsrc2.set (b := w.heap.size + 1) (.slice (some ⟨w.heap.size, 0, none⟩) (acc.joined.length + 1) m) (fun a ha _ => by have := HxB.out a ha; omega); have d1' := e1'.cell; have f1' := e1'.frozen; have e1s := e1'.set (.slice (some ⟨w.heap.size, 0, none⟩) (acc.joined.length + 1) m); have e3s := e3'.other (B' := w.heap.size + 1) (by omega) (.slice (some ⟨w.heap.size, 0, none⟩) (acc.joined.length + 1) m))
          | (gi_at_builtin; refine wpListIn_app _ rfl _ _ rfl w.heap.size m _ (acc.joined ++ [10]) (Sp.valOf (Sp.textAt ev p)) (by simp) rfl oR2 x c _ rfl rfl hsrc3 (by simp; omega) ?_; intro W3 oR3 hg3; have e1t := e1s.kept hg3 (ne_some (by omega)); have e3t := e3s.kept hg3 (ne_some (by omega)); have d1t := e1t.cell; have f1t := e1t.frozen; have d3t := e3t.cell; have f3t := e3t.frozen))
        have hz := hb1.size
        have hz2 : W1.heap.size + 1 ≤ W2.heap.size := by have := hg2.size; simpa using this
        have hz3 : W2.heap.size ≤ W3.heap.size := by have := hg3.size; simpa [World.setCell] using this
        have hl2 : ((acc.joined ++ [10]) ++ Sp.valOf (Sp.textAt ev p)).length = acc.joined.length + 1 + (Sp.valOf (Sp.textAt ev p)).length := by simp; omega
        have k1 := (e1t.set (.slice (some ⟨w.heap.size, 0, none⟩) (acc.joined.length + 1 + (Sp.valOf (Sp.textAt ev p)).length) m)).other (B' := w.heap.size + 1 + 1) (by omega) (.int .i64 ((acc.fields : Int) + 1))
        have k3 := (e3t.other (B' := w.heap.size + 1) (by omega) (.slice (some ⟨w.heap.size, 0, none⟩) (acc.joined.length + 1 + (Sp.valOf (Sp.textAt ev p)).length) m)).set (.int .i64 ((acc.fields : Int) + 1))
        have q1 : KeepsFrom W0.heap.size W1 (W1.alloc (.cells #[.int .u8 10] 5)) := (KeepsOthers.alloc _ _).from _
        have hs2 : (W2.setCell ⟨w.heap.size + 1, 0, none⟩ (.slice (some ⟨w.heap.size, 0, none⟩) (acc.joined.length + 1) m)).heap.size = W2.heap.size := by simp [World.setCell]
        refine ⟨((((((keeps_of hb1 _).trans q1).trans (keeps_grown hg2 (by omega))).trans (keeps_set _ _ _ _)).trans (keeps_grown hg3 (by omega))).trans (keeps_set _ _ _ _)).trans (keeps_set _ _ _ _), ?_, _, hstep, box_slice k1 hl2.symm, (oR3.set (by omega) _).set (by omega) _, box_eq k3 (by simp), ?_, ?_⟩
        · rw [Below.heap_setCell _ _ _ _ (by show w.heap.size + 1 + 1 + 1 ≠ w.heap.size + 1 + 1; omega), Below.heap_setCell _ _ _ _ (by show w.heap.size + 1 + 1 + 1 ≠ w.heap.size + 1; omega), hg3.block _ (by omega) (ne_some (by omega)), Below.heap_setCell _ _ _ _ (by show w.heap.size + 1 + 1 + 1 ≠ w.heap.size + 1; omega), hg2.block _ (by simp; omega) (ne_some (by omega)), Below.heap_alloc _ _ _ (by omega)]
          exact hb1.block _ (by omega)
        · have r1 := ((cB.trans (hb1.mono cB.size)).alloc (by omega) (.cells #[.int .u8 10] 5)).grown hg2 (by simp; omega) (fun k e => by cases e; exact Nat.le_refl _)
          have r2 := (r1.setCell (p := ⟨w.heap.size + 1, 0, none⟩) (by show w.heap.size ≤ w.heap.size + 1; omega) (.slice (some ⟨w.heap.size, 0, none⟩) (acc.joined.length + 1) m)).grown hg3 (by omega) (fun k e => by cases e; exact Nat.le_refl _)
          exact (r2.setCell (p := ⟨w.heap.size + 1, 0, none⟩) (by show w.heap.size ≤ w.heap.size + 1; omega) _).setCell (p := ⟨w.heap.size + 1 + 1, 0, none⟩) (by show w.heap.size ≤ w.heap.size + 1 + 1; omega) _
        · have r1 := (((cS.below hb1 hBW).alloc (.cells #[.int .u8 10] 5)).same (hg2.block B (by simp; omega) (ne_some (by omega)))).setCell (b := w.heap.size + 1) (by omega) (.slice (some ⟨w.heap.size, 0, none⟩) (acc.joined.length + 1) m)
          exact ((r1.same (hg3.block B (by omega) (ne_some (by omega)))).setCell (by omega) _).setCell (by omega) _
  case done =>
    rintro D W hD ⟨acc, hA, c1, cR, c3, cB, cS⟩ hK
    have hab := Sp.fin_one hA Hfin.out
    subst hab
    have d1 := c1.cell
    gi_wp2
    refine ⟨by simp, .inl ⟨_, _, rfl, run_takeDeferred hK, ?_⟩⟩
    have hk6 := Kept.put (n₀ := w.heap.size + 4) (Bn := w.heap.size + 3) (by omega) hK rfl (.deferred none)
    refine ⟨_, results_tmp rfl _ _ _, ?_, ?_, Below.keptK cB hk6 (by omega) (by omega)⟩
    · rw [Hm.out]; rfl
    · have := cR.same (hk6.low _ (by omega) (by omega))
      rw [Hm.out] at this ⊢; exact this

end Go.Proofs.Qxb6605680a
