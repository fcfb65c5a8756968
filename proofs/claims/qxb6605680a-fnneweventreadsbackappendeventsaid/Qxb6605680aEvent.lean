/-
  Seat b6605680a: THE WALKS OF sse.NewEvent (8), ZZeventJoined (11), sameSliceSseB1 (9), equalBytesSseB1 (12), cloneBytesSseB1 (7).
-/
import Derived.Test.Qxb6605680aJoin
import Derived.BigQuiet
import Derived.Laws.CopyOwn
import Derived.WalkSpells
import Derived.LaidEqlPtr
namespace Go.Proofs.Qxb6605680a
open Go.RowKit Go.Shelf

/-- the event's data, in the world behind NewEvent -/
def IsData (w0 w : World) (B o cap : Nat) (a : Sp.Acc) (v : Value) (j : Bool) : Prop :=
  (a.fields < 2 ∧ j = false ∧ IsFirst B o cap a v) ∨
  (2 ≤ a.fields ∧ j = true ∧ ∃ g, w0.heap.size ≤ g ∧ v = .slice (some ⟨g, 0, none⟩) a.joined.length a.joined.length ∧ OwnsAt w g a.joined.length a.joined)

set_option maxHeartbeats 1000000 in
theorem newEvent_any (v0 : Option Addr) (B o cap : Nat) (ev : List UInt8) (w : World) (hcap : ev.length ≤ cap) (hbd : ev.length ≤ 140737488355328) (hm : cap ≤ 9223372036854775807) (hv : 0 < ev.length → v0 = some ⟨B, o, none⟩) (hs : Seg w B o ev) :
    Calls Try.prog 8 #[.slice v0 ev.length cap] w fun e w' =>
      (∃ (a : Sp.Acc) (v : Value) (j : Bool), Sp.Fin ev a ∧ e = .returned (.agg #[.slice v0 ev.length cap, v, .bool j]) ∧ IsData w w' B o cap a v j) ∧ Below w.heap.size w w' := by
  have hD := dataFields_any v0 B o cap ev (w.alloc (.cells #[.slice none 0 0, .slice none 0 0, .bool false] 26)) hcap hbd hm hv (hs.alloc _)
  rw [World.size_alloc] at hD
  have HD : Hid (Calls Try.prog 16 #[.slice v0 ev.length cap] (w.alloc (.cells #[.slice none 0 0, .slice none 0 0, .bool false] 26)) _) := hD
  clear hD
  have hs1 := hs.alloc (.cells #[.slice none 0 0, .slice none 0 0, .bool false] 26)
  go_enter Try.func8, Try.ntmps8
  go_wp2_with fail
  refine HD.out.mono ?_
  rintro e w1 ⟨⟨a, v, hF, rfl, hfst⟩, hb⟩
  obtain ⟨fx, fn, fc, rfl⟩ := isFirst_slice hfst
  have hblk : w1.heap[w.heap.size]? = some (.cells #[.slice none 0 0, .slice none 0 0, .bool false] 26) := (hb.block _ (by omega)).trans (World.alloc_heap_new w _)
  have q0 : w1.cell? ⟨w.heap.size, 0, none⟩ = some (.slice none 0 0) := by simp [World.cell?, hblk]
  have q1 : w1.cell? ⟨w.heap.size, 1, none⟩ = some (.slice none 0 0) := by simp [World.cell?, hblk]
  have q2 : w1.cell? ⟨w.heap.size, 2, none⟩ = some (.bool false) := by simp [World.cell?, hblk]
  have r0 : w1.frozen? ⟨w.heap.size, 0, none⟩ = false := by simp [World.frozen?, hblk]
  have r1 : w1.frozen? ⟨w.heap.size, 1, none⟩ = false := by simp [World.frozen?, hblk]
  have r2 : w1.frozen? ⟨w.heap.size, 2, none⟩ = false := by simp [World.frozen?, hblk]
  have hz := hb.size
  rw [World.size_alloc] at hz
  have hB1 : Below w.heap.size w w1 := ((Below.refl _ w).alloc (Nat.le_refl _) _).trans (hb.mono (by omega))
  have hs2 : Seg w1 B o ev := by
    by_cases h0 : 0 < ev.length
    · exact hs1.below hb (by have := hs.block h0; omega)
    · intro i hi; omega
  by_cases h2 : (a.fields : Int) < 2
  · clear HD hs1 hb hblk
    go_wp2
    refine bodyPost_ret (v := .agg #[.slice v0 ev.length cap, .slice fx fn fc, .bool false]) ?_ rfl ⟨⟨a, _, _, hF, rfl, .inl ⟨by omega, rfl, hfst⟩⟩, ?_⟩
    · simp [results, Try.results8, go_sem, q0, q1, q2]
    · exact ((hB1.setCell (p := ⟨w.heap.size, 0, none⟩) (Nat.le_refl _) _).setCell (p := ⟨w.heap.size, 1, none⟩) (Nat.le_refl _) _).setCell (p := ⟨w.heap.size, 2, none⟩) (Nat.le_refl _) _
  · have hj := joinData_any v0 B o cap ev a w1 hcap hbd hm hv hs2 hF
    have HJ : Hid (Calls Try.prog 17 #[.slice v0 ev.length cap, .int .i64 (a.joined.length : Nat)] w1 _) := hj
    clear HD hs1 hb hblk hj
    go_wp2_with fail
    refine HJ.out.mono ?_
    rintro e w2 ⟨rfl, hO, hb2⟩
    rw [← hb2.cell (p := ⟨w.heap.size, 0, none⟩) (by show w.heap.size < w1.heap.size; omega)] at q0
    rw [← hb2.cell (p := ⟨w.heap.size, 1, none⟩) (by show w.heap.size < w1.heap.size; omega)] at q1
    rw [← hb2.cell (p := ⟨w.heap.size, 2, none⟩) (by show w.heap.size < w1.heap.size; omega)] at q2
    rw [← hb2.frozen (p := ⟨w.heap.size, 0, none⟩) (by show w.heap.size < w1.heap.size; omega)] at r0
    rw [← hb2.frozen (p := ⟨w.heap.size, 1, none⟩) (by show w.heap.size < w1.heap.size; omega)] at r1
    rw [← hb2.frozen (p := ⟨w.heap.size, 2, none⟩) (by show w.heap.size < w1.heap.size; omega)] at r2
    clear HJ
    go_wp2
    refine bodyPost_ret (v := .agg #[.slice v0 ev.length cap, .slice (some ⟨w1.heap.size, 0, none⟩) a.joined.length a.joined.length, .bool true]) ?_ rfl ⟨⟨a, _, _, hF, rfl, .inr ⟨by omega, rfl, w1.heap.size, by omega, rfl, ?_⟩⟩, ?_⟩
    · simp [results, Try.results8, go_sem, q0, q1, q2]
    · refine hO.same ?_
      rw [Below.heap_setCell _ _ _ _ (by show w1.heap.size ≠ w.heap.size; omega), Below.heap_setCell _ _ _ _ (by show w1.heap.size ≠ w.heap.size; omega), Below.heap_setCell _ _ _ _ (by show w1.heap.size ≠ w.heap.size; omega)]
    · exact (((hB1.trans (hb2.mono (by omega))).setCell (p := ⟨w.heap.size, 0, none⟩) (Nat.le_refl _) _).setCell (p := ⟨w.heap.size, 1, none⟩) (Nat.le_refl _) _).setCell (p := ⟨w.heap.size, 2, none⟩) (Nat.le_refl _) _

theorem joined_any (a b : Option Addr) (n c n' c' : Nat) (j : Bool) (w : World) :
    Calls Try.prog 11 #[.agg #[.slice a n c, .slice b n' c', .bool j]] w fun e w' => e = .returned (.bool j) ∧ Below w.heap.size w w' := by
  go_enter Try.func11, Try.ntmps11
  go_wp2
  go_ret
  exact ⟨rfl, (Below.refl _ w).alloc (Nat.le_refl _) _⟩

theorem eqnil (w : World) (a : Option Addr) (n c : Nat) : (binOp .eql 22 (.slice a n c) (.slice none 0 0)).run Try.prog w = .ok (.bool a.isNone) w := Lib.run_eql_slice_nil w 22 5 a n c 0 0 Try.underlying22

theorem ptr_same (w : World) (a : Addr) : (binOp .eql 32 (.pointer (some a)) (.pointer (some a))).run Try.prog w = .ok (.bool true) w := by
  obtain ⟨i0, hi, hz0, hz1, hz2⟩ := info_parts info5
  exact run_eql_ptr_same w a Try.underlying32 hi

/-- the same slice twice -/
theorem same_any (v : Option Addr) (n c : Nat) (w : World) (hv : 0 < n → ∃ B o, v = some ⟨B, o, none⟩) :
    Calls Try.prog 9 #[.slice v n c, .slice v n c] w fun e w' => e = .returned (.bool true) ∧ Below w.heap.size w w' := by
  have hq := eqnil
  by_cases h0 : n = 0
  · subst h0
    cases v
    · go_enter Try.func9, Try.ntmps9
      go_wp2
      go_ret
      exact ⟨rfl, Below.refl _ _⟩
    · go_enter Try.func9, Try.ntmps9
      go_wp2
      go_ret
      exact ⟨rfl, Below.refl _ _⟩
  · obtain ⟨B, o, rfl⟩ := hv (by omega)
    have c1 : (0 : Int) < (n : Int) := by omega
    have hn : ((n : Int) == 0) = false := beq_eq_false_iff_ne.2 (by omega)
    have hp := fun w => ptr_same w ⟨B, o, none⟩
    go_enter Try.func9, Try.ntmps9
    go_wp2
    go_region
    all_goals
      go_wp2
      go_ret
      exact ⟨rfl, (Below.refl _ _).drew⟩

/-- two rows of bytes, compared -/
theorem equal_any (a b : Option Addr) (c c' : Nat) (B o B' o' : Nat) (l l' : List UInt8) (w : World) (ha : 0 < l.length → a = some ⟨B, o, none⟩) (hb : 0 < l'.length → b = some ⟨B', o', none⟩) (hs : Seg w B o l) (hs' : Seg w B' o' l') (hl : l.length ≤ 140737488355328) (hl' : l'.length ≤ 140737488355328) (heq : l = l') :
    Calls Try.prog 12 #[.slice a l.length c, .slice b l'.length c'] w fun e w' => e = .returned (.bool true) ∧ Below w.heap.size w w' := by
  subst heq
  by_cases h0 : l.length = 0
  · rw [h0]
    go_enter Try.func12, Try.ntmps12
    go_wp2
    go_loop [5] (fun i => i = .int .i64 0) (fun _ => 0)
    case atStart => rfl
    case round =>
      subst hrel
      go_wp2
      go_ret
      exact ⟨rfl, Below.refl _ _⟩
  · obtain rfl := ha (by omega)
    obtain rfl := hb (by omega)
    clear ha hb
    obtain ⟨n, Hn⟩ : ∃ n, Hid (n = l.length) := ⟨_, rfl⟩
    rw [← Hn.out] at hl ⊢
    go_enter Try.func12, Try.ntmps12
    go_wp2
    go_loopw [5] (fun i wr => ∃ k : Nat, k ≤ n ∧ i = .int .i64 k ∧ Seg wr B o l ∧ Seg wr B' o' l ∧ Below w.heap.size w wr) (fun i _ => n - (intOf i).toNat)
    case atStart => exact ⟨0, Nat.zero_le _, rfl, hs, hs', Below.refl _ _⟩
    case round =>
      obtain ⟨k, hk, rfl, s1, s2, hB⟩ := hrel
      by_cases hlt : k < n
      · have g1 := s1 k (by have := Hn.out; omega)
        have g2 := s2 k (by have := Hn.out; omega)
        have c1 : (k : Int) < (n : Int) := by omega
        have b0 := Sp.bt_lo l k
        have b1 := Sp.bt_hi l k
        generalize Sp.bt l k = x at *
        go_wp2
        go_region
        go_wp2
        go_roundw
        case rel => exact ⟨k + 1, by omega, by go_num, s1.drew, s2.drew, hB.drew⟩
        case measure => simp [intOf]; omega
      · go_wp2
        go_ret
        exact ⟨rfl, hB⟩

end Go.Proofs.Qxb6605680a
