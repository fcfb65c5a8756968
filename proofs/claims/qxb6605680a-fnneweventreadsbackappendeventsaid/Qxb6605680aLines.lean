/-
  Seat b6605680a: 'for line := range bytes.Lines(event) { .. }': THE ITERATOR (20), which keeps its state in a captured variable.
-/
import Derived.Test.Qxb6605680aField
import Derived.RangeFuncNested
import Derived.RangeFuncBound
import Derived.RangeFuncCalls
import Derived.RangeFuncLeaves
import Derived.Shelf.Abstract
import Derived.Shelf.RegionOpen
import Derived.OwnWalkIn
import Derived.TacticsInMore
import Derived.LoopNIn
import Derived.LoopIn
namespace Go.Proofs.Qxb6605680a
open Go.RowKit Go.Shelf
attribute [local go_sem] Oper.semAt_some

/-- WHAT THE ITERATOR's OWN STEPS KEEP: all below n₀ but its own variable's box Bn; beyond n₀ all cells. -/
structure Kept (n₀ Bn : Nat) (W W' : World) : Prop where
  os : W'.os = W.os
  tape : W'.tape = W.tape
  output : W'.output = W.output
  size : W.heap.size ≤ W'.heap.size
  low : ∀ k, k < n₀ → k ≠ Bn → W'.heap[k]? = W.heap[k]?
  high : ∀ k cs t fr, n₀ ≤ k → W.heap[k]? = some (.cells cs t fr) → W'.heap[k]? = some (.cells cs t fr)

theorem Kept.refl (n₀ Bn : Nat) (W : World) : Kept n₀ Bn W W := ⟨rfl, rfl, rfl, Nat.le_refl _, fun _ _ _ => rfl, fun _ _ _ _ _ h => h⟩
theorem Kept.trans {n₀ Bn : Nat} {A B C : World} (h : Kept n₀ Bn A B) (k : Kept n₀ Bn B C) : Kept n₀ Bn A C :=
  ⟨k.os.trans h.os, k.tape.trans h.tape, k.output.trans h.output, Nat.le_trans h.size k.size, fun i hi hn => (k.low i hi hn).trans (h.low i hi hn), fun i cs t fr hi hk => k.high i cs t fr hi (h.high i cs t fr hi hk)⟩
theorem Kept.alloc {n₀ Bn : Nat} {W : World} (hB : n₀ ≤ W.heap.size) (o : Obj) : Kept n₀ Bn W (W.alloc o) :=
  ⟨rfl, rfl, rfl, by simp, fun k hk _ => Below.heap_alloc W o k (by omega), fun k cs t fr _ hk => by rw [Below.heap_alloc W o k (Array.getElem?_eq_some_iff.1 hk).1]; exact hk⟩
theorem Kept.put {n₀ Bn l : Nat} {W : World} {o : Obj} (hl : n₀ ≤ l) (h : W.heap[l]? = some o) (ho : o.isCells = false) (o' : Obj) : Kept n₀ Bn W (W.putObj l o') :=
  ⟨rfl, rfl, rfl, by simp, fun k hk _ => World.putObj_heap_other (by omega), fun k cs t fr _ hk => by
    by_cases e : k = l
    · subst e; rw [h] at hk; cases hk; simp [Obj.isCells] at ho
    · rw [World.putObj_heap_other e]; exact hk⟩

/-- the iterator's own steps: but for its box nothing turns -/
structure KeptB (Bn : Nat) (W W' : World) : Prop where
  os : W'.os = W.os
  tape : W'.tape = W.tape
  output : W'.output = W.output
  size : W.heap.size ≤ W'.heap.size
  blk : ∀ k, k ≠ Bn → W'.heap[k]? = W.heap[k]?
theorem KeptB.drew (Bn : Nat) (W : World) : KeptB Bn W W.drew := ⟨rfl, rfl, rfl, Nat.le_refl _, fun _ _ => rfl⟩
theorem KeptB.box (Bn : Nat) (W : World) (v : Value) : KeptB Bn W (W.setCell ⟨Bn, 0, none⟩ v) :=
  ⟨rfl, rfl, rfl, by simp [World.setCell], fun k hk => Below.heap_setCell W ⟨Bn, 0, none⟩ v k hk⟩
theorem KeptB.trans {Bn : Nat} {A B C : World} (h : KeptB Bn A B) (k : KeptB Bn B C) : KeptB Bn A C :=
  ⟨k.os.trans h.os, k.tape.trans h.tape, k.output.trans h.output, Nat.le_trans h.size k.size, fun i hn => (k.blk i hn).trans (h.blk i hn)⟩
theorem KeptB.kept {Bn n₀ : Nat} {A B : World} (h : KeptB Bn A B) (hB : Bn < n₀) : Kept n₀ Bn A B :=
  ⟨h.os, h.tape, h.output, h.size, fun k _ hk => h.blk k hk, fun k cs t fr hk hc => (h.blk k (by omega)).trans hc⟩

theorem Seg.same {w w' : World} {B off : Nat} {l : List UInt8} (h : Seg w B off l) (hk : w'.heap[B]? = w.heap[B]?) : Seg w' B off l := fun i hi => by
  rw [World.cell?_of_block (w := w) (a := ⟨B, off + i, none⟩) hk]; exact h i hi

/-- how much is left to read: off the box -/
def left (Bn : Nat) (W : World) : Nat := match W.cell? ⟨Bn, 0, none⟩ with | some (.slice _ n _) => n | _ => 0
theorem left_eq {Bn : Nat} {W : World} {a : Option Addr} {n c : Nat} (h : W.cell? ⟨Bn, 0, none⟩ = some (.slice a n c)) : left Bn W = n := by unfold left; rw [h]

/-- the iterator's own variable, p bytes having been read -/
def BoxAt (Bn B o cap : Nat) (ev : List UInt8) (p : Nat) (W : World) : Prop :=
  ∃ a c, W.cell? ⟨Bn, 0, none⟩ = some (.slice a (ev.length - p) c) ∧ W.frozen? ⟨Bn, 0, none⟩ = false ∧ ev.length - p ≤ c ∧ c ≤ cap ∧ (p < ev.length → a = some ⟨B, o + p, none⟩)

theorem indexByte_k (B o k cap : Nat) (l : List UInt8) (w : World) (r : Int) (hk : k = l.length) (h : Seg w B o l) (hr : Lib.indexByte l 10 = r) :
    Calls Try.prog 21 #[.slice (some ⟨B, o, none⟩) k cap, .int .u8 10] w fun e w' => e = .returned (.int .i64 r) ∧ w' = w := by
  subst hk; subst hr; exact indexByte_any B o cap l 10 w h

set_option maxRecDepth 100000 in
set_option maxHeartbeats 1000000 in
theorem lines1_in (n l Bn B o cap : Nat) (ev : List UInt8) (J : Nat → World → Prop) (hn : 1 ≤ n) (hm : cap ≤ 9223372036854775807) 
    (hJ : ∀ p W W', J p W → KeptB Bn W W' → J p W')
    (hJs : ∀ p W, J p W → p ≤ ev.length ∧ Seg W B o ev)
    (hY : ∀ p W, p < ev.length → J p W → YieldAt Fence.wide (n - 1) Try.prog l #[.slice (some ⟨B, o + p, none⟩) (Sp.lineLen (ev.drop p)) (Sp.lineLen (ev.drop p))] W fun e W' =>
      e = .returned (.bool true) ∧ J (p + Sp.lineLen (ev.drop p)) W' ∧ W'.heap[Bn]? = W.heap[Bn]?)
    (W : World) (hbox : BoxAt Bn B o cap ev 0 W) (h0 : J 0 W) :
    CallsIn Fence.wide n Try.prog 20 #[.func (.yield l) #[] #[], .pointer (some ⟨Bn, 0, none⟩)] W fun e W' => (∃ v, e = .returned v) ∧ J ev.length W' := by
  refine callsIn_of_wp Try.func20 rfl trivial ?_ rfl
  simp only [Try.ntmps20, List.size_toArray, List.length_cons, List.length_nil, Nat.reduceAdd, Nat.reduceSub, Array.replicate_succ, Array.replicate_zero, List.push_toArray, List.append_toArray, List.nil_append, List.cons_append]
  gi_wp2
  gi_loopw [3] (fun _ wr => ∃ p, BoxAt Bn B o cap ev p wr ∧ J p wr) (fun _ wr => left Bn wr)
  case atStart => exact ⟨0, hbox, h0⟩
  case round =>
    obtain ⟨p, ⟨a, c, hc, hf, hlc, hcc, ha⟩, hJp⟩ := hrel
    obtain ⟨hple, hseg⟩ := hJs p wr hJp
    by_cases hlt : p < ev.length
    · obtain rfl := ha hlt
      have hge := Lib.indexByte_ge (ev.drop p) 10
      have hdl : (ev.drop p).length = ev.length - p := List.length_drop
      have hS2 : Seg wr B (o + p) (ev.drop p) := by
        have := hseg.sub p (ev.drop p).length
        rwa [List.take_length] at this
      by_cases hx : Lib.indexByte (ev.drop p) 10 = -1
      · have hll := Sp.lineLen_none _ hx
        rw [hdl] at hll
        have HI : Hid (Calls Try.prog 21 #[.slice (some ⟨B, o + p, none⟩) (ev.length - p) c, .int .u8 10] wr fun e w' => e = .returned (.int .i64 (-1)) ∧ w' = wr) := indexByte_k B (o + p) _ c (ev.drop p) wr (-1) hdl.symm hS2 hx
        have hJ1 := hJ p wr _ hJp (KeptB.box Bn wr (.slice none 0 0))
        obtain ⟨fn, tmps, assign, body, hy, hR⟩ := hY p _ hlt hJ1
        rw [hll] at hy hR
        have HR : Hid (RoundIn Fence.wide (n - 1) Try.prog l fn tmps assign body _ _) := hR
        have hpos : 0 < ev.length - p := by omega
        have HC1 : Hid ((wr.setCell ⟨Bn, 0, none⟩ (.slice none 0 0)).cell? ⟨Bn, 0, none⟩ = some (.slice none 0 0)) := World.cell?_setCell_same' _ _ _ (by rw [hc]; rfl)
        have HF1 : Hid ((wr.setCell ⟨Bn, 0, none⟩ (.slice none 0 0)).frozen? ⟨Bn, 0, none⟩ = false) := by unfold Hid; rw [World.frozen?_setCell]; exact hf
        have HL : Hid (p + (ev.length - p) = ev.length) := by unfold Hid; omega
        clear hx hge hdl hS2 hR hJ1 hll hseg
        generalize ev.length - p = k at *
        gi_wp2_with (refine ⟨trivial, ?_⟩; gi_at_call 21; refine (callsIn_wide.2 HI.out).mono ?_; rintro e w' ⟨rfl, rfl⟩)
        refine HR.out.mono ?_
        rintro e W3 ⟨rfl, hJ3, hk3⟩
        have hc3 : W3.cell? ⟨Bn, 0, none⟩ = some (.slice none 0 0) := (World.cell?_of_block (a := ⟨Bn, 0, none⟩) hk3).trans HC1.out
        have hf3 : W3.frozen? ⟨Bn, 0, none⟩ = false := (World.frozen?_of_block (a := ⟨Bn, 0, none⟩) hk3).trans HF1.out
        have hJ4 : Hid (J ev.length W3) := by rw [HL.out] at hJ3; exact hJ3
        clear hJ3 hy HI hJp hf HC1 HF1 HR hk3 HL
        gi_wp2
        go_roundw
        case rel => exact ⟨ev.length, ⟨none, 0, by rw [hc3, Nat.sub_self], hf3, by omega, by omega, fun h => by omega⟩, hJ4.out⟩
        case measure => rw [left_eq hc3, left_eq hc]; exact hpos
      · obtain ⟨i, hi⟩ : ∃ i : Nat, Lib.indexByte (ev.drop p) 10 = i := ⟨(Lib.indexByte (ev.drop p) 10).toNat, by omega⟩
        have hll := Sp.lineLen_some _ i hi
        have hle := Sp.lineLen_le (ev.drop p)
        rw [hll, hdl] at hle
        have HI : Hid (Calls Try.prog 21 #[.slice (some ⟨B, o + p, none⟩) (ev.length - p) c, .int .u8 10] wr fun e w' => e = .returned (.int .i64 (i : Int)) ∧ w' = wr) := indexByte_k B (o + p) _ c (ev.drop p) wr i hdl.symm hS2 hi
        have HY : Hid (∀ W, J p W → YieldAt Fence.wide (n - 1) Try.prog l #[.slice (some ⟨B, o + p, none⟩) (i + 1) (i + 1)] W fun e W' =>
            e = .returned (.bool true) ∧ J (p + (i + 1)) W' ∧ W'.heap[Bn]? = W.heap[Bn]?) := fun W hW => by
          have := hY p W hlt hW
          rwa [hll] at this
        have hle2 : p + (i + 1) ≤ ev.length := by omega
        clear hx hge hdl hS2 hll hseg hi hY
        obtain ⟨k, HKe⟩ : ∃ k, Hid (k = ev.length - p) := ⟨_, rfl⟩
        rw [← HKe.out] at hc HI hlc hle
        have hpos : 0 < k := by omega
        have c1 : (0 : Int) ≤ ↑i + 1 := by omega
        have c2 : (↑i + 1 : Int) ≤ ↑k := by omega
        have c3 : (↑i + 1 : Int) ≤ ↑c := by omega
        by_cases hci : c = i + 1
        · obtain rfl : k = i + 1 := by omega
          subst hci
          have hJ1 := hJ p wr _ hJp ((KeptB.box Bn wr (.slice (some ⟨B, o + p, none⟩) 0 0)).trans (KeptB.drew _ _))
          obtain ⟨fn, tmps, assign, body, hy, hR⟩ := HY.out _ hJ1
          have HR : Hid (RoundIn Fence.wide (n - 1) Try.prog l fn tmps assign body _ _) := hR
          have HC1 : Hid ((wr.setCell ⟨Bn, 0, none⟩ (.slice (some ⟨B, o + p, none⟩) 0 0)).cell? ⟨Bn, 0, none⟩ = some (.slice (some ⟨B, o + p, none⟩) 0 0)) := World.cell?_setCell_same' _ _ _ (by rw [hc]; rfl)
          have HF1 : Hid ((wr.setCell ⟨Bn, 0, none⟩ (.slice (some ⟨B, o + p, none⟩) 0 0)).frozen? ⟨Bn, 0, none⟩ = false) := by unfold Hid; rw [World.frozen?_setCell]; exact hf
          clear hJ1 hR HY
          gi_wp2_with (refine ⟨trivial, ?_⟩; gi_at_call 21; refine (callsIn_wide.2 HI.out).mono ?_; rintro e w' ⟨rfl, rfl⟩)
          gi_region
          gi_wp2
          refine HR.out.mono ?_
          rintro e W3 ⟨rfl, hJ3, hk3⟩
          have hc3 : W3.cell? ⟨Bn, 0, none⟩ = some (.slice (some ⟨B, o + p, none⟩) 0 0) := (World.cell?_of_block (a := ⟨Bn, 0, none⟩) hk3).trans HC1.out
          have hf3 : W3.frozen? ⟨Bn, 0, none⟩ = false := (World.frozen?_of_block (a := ⟨Bn, 0, none⟩) hk3).trans HF1.out
          clear hy HI hJp hf HC1 HF1 HR hk3
          gi_wp2
          go_roundw
          case rel =>
            have hke := HKe.out
            exact ⟨p + (i + 1), ⟨_, _, by rw [hc3, show ev.length - (p + (i + 1)) = 0 by omega], hf3, by omega, by omega, fun h => by omega⟩, hJ3⟩
          case measure => rw [left_eq hc3, left_eq hc]; omega
        ·
          have hJ1 := hJ p wr _ hJp ((KeptB.box Bn wr (.slice (some ⟨B, o + p + (i + 1), none⟩) (k - (i + 1)) (c - (i + 1)))).trans (KeptB.drew _ _))
          obtain ⟨fn, tmps, assign, body, hy, hR⟩ := HY.out _ hJ1
          have HR : Hid (RoundIn Fence.wide (n - 1) Try.prog l fn tmps assign body _ _) := hR
          have HC1 : Hid ((wr.setCell ⟨Bn, 0, none⟩ (.slice (some ⟨B, o + p + (i + 1), none⟩) (k - (i + 1)) (c - (i + 1)))).cell? ⟨Bn, 0, none⟩ = some (.slice (some ⟨B, o + p + (i + 1), none⟩) (k - (i + 1)) (c - (i + 1)))) := World.cell?_setCell_same' _ _ _ (by rw [hc]; rfl)
          have HF1 : Hid ((wr.setCell ⟨Bn, 0, none⟩ (.slice (some ⟨B, o + p + (i + 1), none⟩) (k - (i + 1)) (c - (i + 1)))).frozen? ⟨Bn, 0, none⟩ = false) := by unfold Hid; rw [World.frozen?_setCell]; exact hf
          clear hJ1 hR HY
          gi_wp2_with (refine ⟨trivial, ?_⟩; gi_at_call 21; refine (callsIn_wide.2 HI.out).mono ?_; rintro e w' ⟨rfl, rfl⟩)
          gi_region
          gi_wp2
          refine HR.out.mono ?_
          rintro e W3 ⟨rfl, hJ3, hk3⟩
          have hc3 : W3.cell? ⟨Bn, 0, none⟩ = some (.slice (some ⟨B, o + p + (i + 1), none⟩) (k - (i + 1)) (c - (i + 1))) := (World.cell?_of_block (a := ⟨Bn, 0, none⟩) hk3).trans HC1.out
          have hf3 : W3.frozen? ⟨Bn, 0, none⟩ = false := (World.frozen?_of_block (a := ⟨Bn, 0, none⟩) hk3).trans HF1.out
          clear hy HI hJp hf HC1 HF1 HR hk3
          gi_wp2
          go_roundw
          case rel =>
            have hke := HKe.out
            exact ⟨p + (i + 1), ⟨_, _, by rw [hc3, show ev.length - (p + (i + 1)) = k - (i + 1) by omega], hf3, by omega, by omega, fun h => by rw [Nat.add_assoc]⟩, hJ3⟩
          case measure => rw [left_eq hc3, left_eq hc]; omega
    · have hz : ev.length - p = 0 := by omega
      rw [hz] at hc
      obtain rfl : p = ev.length := by omega
      gi_wp2
      go_end0
      exact ⟨⟨_, rfl⟩, hJp⟩

/-- HOW A LOOP's BODY MUST BE LEFT: off its end. -/
def linePost (n₀ Bn : Nat) (J : World → Prop) (W : World) : Exit → Act → World → Prop
  | .normal, _, W' => KeepsFrom n₀ W W' ∧ W'.heap[Bn]? = W.heap[Bn]? ∧ J W'
  | _, _, _ => False

/-- 'for line := range bytes.Lines(event) { body }', the body going on to the last line -/
theorem wpIn_lines {n : Nat} {g : Operand} {ps : Array Tmp} {assign body : Code} {Q : Exit → Act → World → Prop} {a : Act} {w : World} (Bn B o cap : Nat) (ev : List UInt8) (hn : 2 ≤ n) (hm : cap ≤ 9223372036854775807)
    (hg : a.eval g = .func (.func 20) #[] #[.pointer (some ⟨Bn, 0, none⟩)]) (hps : ps.size = 1) (hBn : Bn < w.heap.size)
    (J : Nat → World → Prop) (hJ : ∀ p W W', J p W → Kept w.heap.size Bn W W' → J p W') (hJs : ∀ p W, J p W → p ≤ ev.length ∧ Seg W B o ev)
    (hbox : BoxAt Bn B o cap ev 0 w) (h0 : J 0 w) (a₁ : Nat → Act)
    (hassign : ∀ (l p : Nat) (W : World) (K : Act → World → Prop), K (a₁ p) W →
      assign.wpIn (Fence.wide.inRound l) (n - 1 - 1) Try.prog (Exit.then K (fun _ _ _ => False)) { tmps := (ps.zip #[Value.slice (some ⟨B, o + p, none⟩) (Sp.lineLen (ev.drop p)) (Sp.lineLen (ev.drop p))]).foldl (fun t (p, v) => t.setIfInBounds p v) a.tmps, defers := [] } W)
    (hbody : ∀ (l p : Nat) (W : World), p < ev.length → J p W → w.heap.size ≤ W.heap.size → body.wpIn (Fence.wide.inRound l) (n - 1 - 1) Try.prog (linePost w.heap.size Bn (J (p + Sp.lineLen (ev.drop p))) W) (a₁ p) W)
    (hdone : ∀ (D : Nat) (W : World), w.heap.size ≤ D → J ev.length W → W.heap[D]? = some (.deferred (some [])) → Q .normal { a with defers := { target := .collected D, args := #[] } :: a.defers } W) :
    (Code.rangeFunc g ps assign body).wpIn Fence.wide n Try.prog Q a w := by
  refine wpIn_rangeFunc ?_
  intro fn hfn
  obtain ⟨rec, hrec⟩ : ∃ rec : LoopState → Loop, rec = fun st => { state := st, pending := none, fn, tmps := a.tmps, params := ps, assign, body, defers := w.heap.size } := ⟨_, rfl⟩
  obtain ⟨W1, hW1⟩ : ∃ W1, (w.alloc (.deferred (some []))).alloc (.loop (rec .ready)) = W1 := ⟨_, rfl⟩
  have hL1 : W1.heap[w.heap.size + 1]? = some (.loop (rec .ready)) := by
    have := World.alloc_heap_new (w.alloc (.deferred (some []))) (.loop (rec .ready))
    rw [World.size_alloc] at this
    rw [← hW1]; exact this
  have hD1 : W1.heap[w.heap.size]? = some (.deferred (some [])) := by
    rw [← hW1, Below.heap_alloc _ _ _ (by simp)]; exact World.alloc_heap_new w _
  have hK1 : Kept w.heap.size Bn w W1 := by rw [← hW1]; exact (Kept.alloc (Nat.le_refl _) _).trans (Kept.alloc (by simp) _)
  have hbox1 : BoxAt Bn B o cap ev 0 W1 := by
    obtain ⟨x, c, h1, h2, h3⟩ := hbox
    have e : W1.heap[Bn]? = w.heap[Bn]? := by rw [← hW1, Below.heap_alloc _ _ _ (by simp; omega), Below.heap_alloc _ _ _ hBn]
    exact ⟨x, c, (World.cell?_of_block (a := ⟨Bn, 0, none⟩) e).trans h1, (World.frozen?_of_block (a := ⟨Bn, 0, none⟩) e).trans h2, h3⟩
  refine ⟨w.heap.size + 1, [{ target := .collected w.heap.size, args := #[] }], W1, { target := .fn (.func 20) #[.pointer (some ⟨Bn, 0, none⟩)], args := #[.func (.yield (w.heap.size + 1)) #[] #[]] }, W1, 20,
    #[.func (.yield (w.heap.size + 1)) #[] #[]] ++ #[.pointer (some ⟨Bn, 0, none⟩)], W1, ?_, ?_, ?_, ?_, fun _ => by omega, ?_⟩
  · rw [← hW1, hrec]; exact run_enterLoop_outer _ _ _ _ _
  · simp only [resolve, hg]
    simp [go_sem]
  · intro f' _; trivial
  · simp [invoke, go_sem]
  · refine (lines1_in (n - 1) (w.heap.size + 1) Bn B o cap ev (fun p W => J p W ∧ w.heap.size ≤ W.heap.size ∧ W.heap[w.heap.size + 1]? = some (.loop (rec .ready)) ∧ W.heap[w.heap.size]? = some (.deferred (some []))) (by omega) hm ?_ ?_ ?_ W1 hbox1 ⟨hJ 0 w W1 h0 hK1, hK1.size, hL1, hD1⟩).mono ?_
    · rintro p W W' ⟨hj, hs, hl, hd⟩ hk
      exact ⟨hJ p W W' hj (hk.kept hBn), Nat.le_trans hs hk.size, (hk.blk _ (by omega)).trans hl, (hk.blk _ (by omega)).trans hd⟩
    · rintro p W ⟨hj, _⟩
      exact hJs p W hj
    · rintro p W hp ⟨hj, hs, hl, hd⟩
      have hlt : w.heap.size + 1 < W.heap.size := (Array.getElem?_eq_some_iff.1 hl).1
      have hy := run_yield (P := Try.prog) (args := #[Value.slice (some ⟨B, o + p, none⟩) (Sp.lineLen (ev.drop p)) (Sp.lineLen (ev.drop p))]) hl (by rw [hrec]; simp [hps])
      rw [hrec] at hy
      refine ⟨fn, _, assign, body, hy, roundIn_of_wpIn hfn (hassign _ p W _ ⟨_, run_beginRound hl (by rw [hrec]), ?_⟩)⟩
      have hl2 : (W.putObj (w.heap.size + 1) (.loop { rec .ready with state := .busy })).heap[w.heap.size + 1]? = some (.loop { rec .ready with state := .busy }) := World.putObj_heap_same hlt
      have hd2 : (W.putObj (w.heap.size + 1) (.loop { rec .ready with state := .busy })).heap[w.heap.size]? = some (.deferred (some [])) := (World.putObj_heap_other (by omega)).trans hd
      have hj2 := hJ p _ _ hj (Kept.put (n₀ := w.heap.size) (Bn := Bn) (by omega) hl rfl (.loop { rec .ready with state := .busy }))
      refine wpIn_mono (hbody _ p _ hp hj2 (by simpa using hs)) ?_
      rintro e a3 W3 hp3
      cases e with
      | normal =>
        obtain ⟨hk3, hb3, hj3⟩ := hp3
        have hl3 := hk3.same _ _ (by omega) hl2 rfl
        have hd3 := hk3.same _ _ (Nat.le_refl _) hd2 rfl
        have hlt3 : w.heap.size + 1 < W3.heap.size := (Array.getElem?_eq_some_iff.1 hl3).1
        have hend := run_endRound (P := Try.prog) none hl3
        refine ⟨_, _, hend, rfl, ⟨hJ _ _ _ hj3 (Kept.put (by omega) hl3 rfl _), by simp; omega, ?_, (World.putObj_heap_other (by omega)).trans hd3⟩, ?_⟩
        · rw [World.putObj_heap_same hlt3, hrec]; rfl
        · rw [World.putObj_heap_other (by omega), hb3, World.putObj_heap_other (by omega)]
      | ret => exact hp3.elim
      | exit id => exact hp3.elim
      | goto t => exact hp3.elim
      | panic ch => exact hp3.elim
      | outgrown => exact hp3.elim
    · rintro e W2 ⟨⟨v, rfl⟩, hj, hs, hl, hd⟩
      have hend := run_endLoop (P := Try.prog) hl (by rw [hrec]; simp)
      refine ⟨none, _, by rw [hend, hrec], hdone _ _ (Nat.le_refl _) (hJ _ _ _ hj (Kept.put (by omega) hl rfl _)) ((World.putObj_heap_other (by omega)).trans hd)⟩

end Go.Proofs.Qxb6605680a
