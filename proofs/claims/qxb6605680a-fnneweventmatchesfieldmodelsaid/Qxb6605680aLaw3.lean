/-
  Seat b6605680a: THE WALK OF THE LAW FnNewEventMatchesFieldModel (3), the model's contract as a hypothesis.
-/
import Derived.Test.Qxb6605680aRowIn
namespace Go.Proofs.Qxb6605680a
open Go.RowKit Go.Shelf

/-- what nevModelSseB1 does -/
def NevC : Prop := ∀ (v0 : Option Addr) (B o cap : Nat) (ev : List UInt8) (w : World), ev.length ≤ cap → cap ≤ 140737488355328 → (0 < ev.length → v0 = some ⟨B, o, none⟩) → Seg w B o ev →
    Calls Try.prog 10 #[.slice v0 ev.length cap] w fun e w' =>
      (∃ (a : Sp.Acc) (jv : Value), Sp.Fin ev a ∧ e = .returned (.tuple #[.int .i64 (a.fields : Nat), .int .i64 (a.fs : Nat), .int .i64 (a.fe : Nat), .bool a.col, jv]) ∧ w'.ownsRow w.heap.size 5 1 jv a.joined.length (cellsOf a.joined)) ∧ Below w.heap.size w w'

theorem law3_far (a : Option Addr) (n c : Nat) (w : World) (h : 1048576 < (n : Int)) :
    Calls Try.prog 3 #[.slice a n c] w fun e w' => e = .returned (.bool true) ∧ Below w.heap.size w w' := by
  have hz := zz6_any a n c
  simp only [show decide ((n : Int) ≤ 1048576) = false by simp; omega] at hz
  have HZ : Hid (∀ w, Calls Try.prog 6 #[.slice a n c] w fun e w' => e = .returned (.bool false) ∧ w' = w) := hz
  clear hz
  go_enter Try.func3, Try.ntmps3
  go_wp2_with (go_at_call 6; refine (HZ.out _).mono ?_; rintro e w' ⟨rfl, rfl⟩)
  go_ret
  exact ⟨rfl, Below.refl _ _⟩

theorem Seg.belowW {w w' : World} {B off : Nat} {l : List UInt8} (h : Seg w B off l) (hb : Below w.heap.size w w') : Seg w' B off l := by
  by_cases h0 : 0 < l.length
  · exact h.below hb (h.block h0)
  · intro i hi; omega

theorem ptr_other (w : World) (B g k i : Nat) (cb cg : Array Value) (hB : w.heap[B]? = some (.cells cb 5 (0, 0))) (hG : w.heap[g]? = some (.cells cg 5 (0, 0))) (hne : B ≠ g) :
    (binOp .eql 32 (.pointer (some ⟨B, k, none⟩)) (.pointer (some ⟨g, i, none⟩))).run Try.prog w = .ok (.bool false) w := by
  obtain ⟨i0, hi, hz0, hz1, hz2⟩ := info_parts info5
  exact run_eql_ptr_other w Try.underlying32 hi (by omega) (by intro e; injection e with e1; exact hne e1) hB hG

theorem own_slice' {W : World} {base : Nat} {v : Value} {k : Nat} {xs : List Value} (h : W.ownsRow base 5 1 v k xs) : ∃ x n c, v = .slice x n c := by
  rcases h.2 with ⟨rfl, _⟩ | ⟨g', cap, cur, rfl, hb, _⟩
  · exact ⟨_, _, _, rfl⟩
  · exact ⟨_, _, _, rfl⟩

set_option maxRecDepth 100000 in
set_option maxHeartbeats 2000000 in
/-- behind the clone: the event in memory of the call's own -/
theorem law3_near (HNev : Hid NevC) (a : Option Addr) (n c B : Nat) (v1 : Option Addr) (ev : List UInt8) (w : World) (h : (n : Int) ≤ 1048576) (hn : Hid (n = ev.length))
    (HCl : Hid (Calls Try.prog 7 #[.slice a n c] w fun e w' => e = .returned (.slice v1 n n) ∧ Seg w' B 0 ev ∧ (0 < n → ∃ cur, w'.heap[B]? = some (.cells cur 5 (0, 0))) ∧ Below w.heap.size w w'))
    (hv1 : Hid (0 < n → v1 = some ⟨B, 0, none⟩)) :
    Calls Try.prog 3 #[.slice a n c] w fun e w' => e = .returned (.bool true) ∧ Below w.heap.size w w' := by
  have hz := zz6_any a n c
  simp only [show decide ((n : Int) ≤ 1048576) = true by simpa using h] at hz
  have HZ : Hid (∀ w, Calls Try.prog 6 #[.slice a n c] w fun e w' => e = .returned (.bool true) ∧ w' = w) := hz
  clear hz
  go_enter Try.func3, Try.ntmps3
  go_wp2_with (go_at_call 6; refine (HZ.out _).mono ?_; rintro e w' ⟨rfl, rfl⟩)
  refine HCl.out.mono ?_
  rintro e w1 ⟨rfl, hs1, hblk1, hb1⟩
  have Hblk1 : Hid (0 < n → ∃ cur, w1.heap[B]? = some (.cells cur 5 (0, 0))) := hblk1
  clear hblk1 HCl HZ
  have HE := newEvent_any v1 B 0 n ev w1 (by have := hn.out; omega) (by omega) (fun h0 => hv1.out (by have := hn.out; omega)) hs1
  rw [← hn.out] at HE
  have HEv : Hid (Calls Try.prog 8 #[.slice v1 n n] w1 _) := HE
  clear HE
  go_wp2_with fail
  refine HEv.out.mono ?_
  rintro e w2 ⟨⟨acc, v, j, hF, rfl, hD⟩, hb2⟩
  have HF : Hid (Sp.Fin ev acc) := hF
  have HD : Hid (IsData w1 w2 B 0 n acc v j) := hD
  clear hF hD HEv
  have hvs : ∃ x k c, v = .slice x k c := by
    rcases HD.out with ⟨_, _, h⟩ | ⟨_, _, g, _, rfl, _⟩
    · exact isFirst_slice h
    · exact ⟨_, _, _, rfl⟩
  obtain ⟨dx, dk, dc, rfl⟩ := hvs
  have hs2 := hs1.belowW hb2
  go_wp2_with fail
  refine (same_any v1 n n _ (fun h0 => ⟨B, 0, hv1.out h0⟩)).mono ?_
  rintro e w3 ⟨rfl, hb3⟩
  rw [World.size_alloc] at hb3
  have hs3 : Seg w3 B 0 ev := by
    by_cases h0 : 0 < ev.length
    · exact (hs2.alloc _).below hb3 (by have := hs2.block h0; omega)
    · intro i hi; omega
  have hz3 := hb3.size
  rw [World.size_alloc] at hz3
  have hst3 : w3.heap[w2.heap.size]? = some (.cells #[.slice v1 n n, .slice dx dk dc, .bool j] 26) := (hb3.block _ (by omega)).trans (World.alloc_heap_new w2 _)
  have HN := HNev.out v1 B 0 n ev w3 (by have := hn.out; omega) (by omega) (fun h0 => hv1.out (by have := hn.out; omega)) hs3
  rw [← hn.out] at HN
  have HNv : Hid (Calls Try.prog 10 #[.slice v1 n n] w3 _) := HN
  clear HN
  have HS3 : Hid (w3.heap[w2.heap.size]? = some (.cells #[.slice v1 n n, .slice dx dk dc, .bool j] 26)) := hst3
  clear hst3
  go_wp2_with fail
  refine HNv.out.mono ?_
  rintro e w4 ⟨⟨acc', jv, hF', rfl, hO⟩, hb4⟩
  obtain rfl : acc' = acc := Sp.fin_one hF' HF.out
  obtain ⟨jx, jk, jc, rfl⟩ := own_slice' hO
  have HO : Hid (w4.ownsRow w3.heap.size 5 1 (.slice jx jk jc) acc'.joined.length (cellsOf acc'.joined)) := hO
  clear HNv hO hF'
  have HS4 : Hid (w4.heap[w2.heap.size]? = some (.cells #[.slice v1 n n, .slice dx dk dc, .bool j] 26)) := (hb4.block _ (by omega)).trans HS3.out
  have q0 : w4.cell? ⟨w2.heap.size, 0, none⟩ = some (.slice v1 n n) := by simp [World.cell?, HS4.out]
  have q1 : w4.cell? ⟨w2.heap.size, 1, none⟩ = some (.slice dx dk dc) := by simp [World.cell?, HS4.out]
  have q2 : w4.cell? ⟨w2.heap.size, 2, none⟩ = some (.bool j) := by simp [World.cell?, HS4.out]
  go_wp2_with fail
  refine (joined_any _ _ _ _ _ _ _ _).mono ?_
  rintro e w5 ⟨rfl, hb5⟩
  have hz4 := hb4.size
  have hz5 := hb5.size
  have HS5 : Hid (w5.heap[w2.heap.size]? = some (.cells #[.slice v1 n n, .slice dx dk dc, .bool j] 26)) := (hb5.block _ (by omega)).trans HS4.out
  have hs5 : Seg w5 B 0 ev := (hs3.belowW hb4).belowW hb5
  have HB5 : Hid (Below w'.heap.size w' w5) := by
    have z1 := hb1.size
    have z2 := hb2.size
    exact (((((hb1.trans (hb2.mono z1)).alloc (by omega) _).trans (hb3.mono (by omega))).trans (hb4.mono (by omega))).trans (hb5.mono (by omega)))
  obtain ⟨jB, HJ5⟩ : ∃ jB, Hid (Seg w5 jB 0 acc'.joined ∧ jk = acc'.joined.length ∧ (0 < acc'.joined.length → jx = some ⟨jB, 0, none⟩)) := by
    rcases HO.out.2 with ⟨h1, h2⟩ | ⟨g, cp, cur, h1, h2, h3, h4, h5, h6, h7⟩
    · injection h1 with e1 e2 e3
      exact ⟨0, (fun i hi => by omega), by omega, fun h => by omega⟩
    · injection h1 with e1 e2 e3
      subst e1; subst e2; subst e3
      have ho : OwnsAt w4 g jc acc'.joined := ⟨HO.out.1, .inr ⟨g, jc, cur, rfl, Nat.le_refl _, h3, h4, h5, h6, h7⟩⟩
      exact ⟨g, ho.seg.belowW hb5, rfl, fun _ => rfl⟩
  have HG5 : Hid (∀ g, w1.heap.size ≤ g → dx = some ⟨g, 0, none⟩ → OwnsAt w2 g acc'.joined.length acc'.joined → OwnsAt w5 g acc'.joined.length acc'.joined ∧ (∃ cur, w5.heap[g]? = some (.cells cur 5 (0, 0)))) := by
    intro g hg1 hdx ho
    have hgl : g < w2.heap.size := by
      rcases ho.2 with ⟨h, _⟩ | ⟨g', cp, cur, h1, h2, h3, _⟩
      · cases h
      · cases h1; exact (Array.getElem?_eq_some_iff.1 h3).1
    have he : w5.heap[g]? = w2.heap[g]? := by
      rw [hb5.block _ (by omega), hb4.block _ (by omega), hb3.block _ (by omega), Below.heap_alloc _ _ _ hgl]
    have ho5 := ho.same he
    refine ⟨ho5, ?_⟩
    rcases ho5.2 with ⟨h, _⟩ | ⟨g', cp, cur, h1, h2, h3, _⟩
    · cases h
    · cases h1; exact ⟨cur, h3⟩
  have HBlk5 : Hid (0 < n → B < w1.heap.size ∧ ∃ cur, w5.heap[B]? = some (.cells cur 5 (0, 0))) := by
    intro h0
    obtain ⟨cur, hc⟩ := Hblk1.out h0
    have hlt := (Array.getElem?_eq_some_iff.1 hc).1
    have z2 := hb2.size
    refine ⟨hlt, cur, ?_⟩
    rw [hb5.block _ (by omega), hb4.block _ (by omega), hb3.block _ (by omega), Below.heap_alloc _ _ _ (by omega), hb2.block _ (by omega)]
    exact hc
  clear hb1 hb2 hb3 hb4 hb5 hs1 hs2 hs3 q0 q1 q2 HS3 HS4 HO Hblk1 HNev hz3 hz4 hz5
  have q1 : w5.cell? ⟨w2.heap.size, 1, none⟩ = some (.slice dx dk dc) := by simp [World.cell?, HS5.out]
  have hok := Sp.at_ok HF.out
  have hq := eqnil
  have hfs := hok.span
  have hle := hok.len
  have hnn := hn.out
  have h5 : acc'.fe ≤ n := by omega
  have hle2 : acc'.joined.length + acc'.fields ≤ n := by omega
  have hzs : w2.heap.size < w5.heap.size := (Array.getElem?_eq_some_iff.1 HS5.out).1
  clear hnn
  by_cases f0 : acc'.fields = 0
  · have hb0 : ((acc'.fields : Int) == 0) = true := by simpa using f0
    have hz := hok.zero f0
    have hdn : dx = none ∧ j = false := by
      rcases HD.out with ⟨_, rfl, h | h⟩ | ⟨h, _⟩
      · exact ⟨by injection h.2, rfl⟩
      · rw [hz.2.2.1] at h; simp at h
      · omega
    obtain ⟨rfl, rfl⟩ := hdn
    clear f0 hz hok
    go_wp2
    go_ret
    exact ⟨rfl, HB5.out⟩
  · have hb0 : ((acc'.fields : Int) == 0) = false := beq_eq_false_iff_ne.2 (by omega)
    by_cases f1 : acc'.fields = 1
    · have hb1 : ((acc'.fields : Int) == 1) = true := beq_iff_eq.2 (by omega)
      have hj : j = false ∧ IsFirst B 0 n acc' (.slice dx dk dc) := by
        rcases HD.out with ⟨_, rfl, h⟩ | ⟨h, _⟩
        · exact ⟨rfl, h⟩
        · omega
      obtain ⟨rfl, hfst⟩ := hj
      rcases hfst with ⟨hc, hv⟩ | ⟨hc, x, cc, hv, hcc, hcn, hx⟩
      · injection hv with e1 e2 e3
        subst e1; subst e2; subst e3
        clear f0 f1 hok
        rw [hc]
        go_wp2
        go_ret
        exact ⟨rfl, HB5.out⟩
      · injection hv with e1 e2 e3
        subst e1; subst e3
        rw [hc]
        have hdk : ((dk : Int) != (acc'.fe : Int) - (acc'.fs : Int)) = false := by
          rw [e2]; simp only [bne_eq_false_iff_eq]; omega
        have HX : Hid (0 < acc'.fe - acc'.fs → x = 0 + acc'.fs) := hx
        have hd1 : dk ≤ acc'.fe - acc'.fs := by omega
        have hd2 : acc'.fe - acc'.fs ≤ dk := by omega
        clear f0 f1 hok e2 hx hc
        by_cases hlt : (acc'.fs : Int) < (acc'.fe : Int)
        · obtain rfl := HX.out (by omega)
          obtain rfl := hv1.out (by omega)
          have hp := fun w => ptr_same w ⟨B, acc'.fs, none⟩
          have c1 : (0 : Int) < (dk : Int) := by omega
          have c2 : (acc'.fs : Int) < (n : Int) := by omega
          go_wp2
          go_region
          all_goals
            go_wp2
            go_ret
            exact ⟨rfl, HB5.out.drew⟩
        · go_wp2
          go_ret
          exact ⟨rfl, HB5.out⟩
    · have hb1 : ((acc'.fields : Int) == 1) = false := beq_eq_false_iff_ne.2 (by omega)
      have hj : j = true ∧ ∃ g, w1.heap.size ≤ g ∧ Value.slice dx dk dc = .slice (some ⟨g, 0, none⟩) acc'.joined.length acc'.joined.length ∧ OwnsAt w2 g acc'.joined.length acc'.joined := by
        rcases HD.out with ⟨h, _⟩ | ⟨_, rfl, h⟩
        · omega
        · exact ⟨rfl, h⟩
      obtain ⟨rfl, g, hg1, hv, ho2⟩ := hj
      injection hv with e1 e2 e3
      subst e1; subst e2; subst e3
      obtain ⟨ho5, cg, hcg⟩ := HG5.out g hg1 rfl ho2
      obtain ⟨hsj, rfl, hjx⟩ := HJ5.out
      have HEQ : Hid (Calls Try.prog 12 #[.slice (some ⟨g, 0, none⟩) acc'.joined.length acc'.joined.length, .slice jx acc'.joined.length jc] w5 fun e w' => e = .returned (.bool true) ∧ Below w5.heap.size w5 w') :=
        equal_any (some ⟨g, 0, none⟩) jx _ jc g 0 jB 0 acc'.joined acc'.joined w5 (fun _ => rfl) hjx ho5.seg hsj (by omega) (by omega) rfl
      have HCG : Hid (w5.heap[g]? = some (.cells cg 5 (0, 0))) := hcg
      have Hg1 : Hid (w1.heap.size ≤ g) := hg1
      clear f0 f1 hok HG5 HJ5 hsj hjx ho5 ho2 HD hcg hg1
      have hgz : g < w5.heap.size := (Array.getElem?_eq_some_iff.1 HCG.out).1
      by_cases hL : (0 : Int) < (acc'.joined.length : Int)
      · have hLb : decide ((0 : Int) < (acc'.joined.length : Int)) = true := by simpa using hL
        have hLn : decide (0 < acc'.joined.length) = true := by simpa using hL
        go_wp2_with (go_at_call 12; refine HEQ.out.mono ?_; rintro e w6 ⟨rfl, hb6⟩; have q6 := (hb6.cell (p := ⟨w2.heap.size, 1, none⟩) hzs).trans q1)
        have HCG6 : Hid (w6.heap[g]? = some (.cells cg 5 (0, 0))) := (hb6.block _ hgz).trans HCG.out
        have HBlk6 : Hid (0 < n → B < w1.heap.size ∧ ∃ cur, w6.heap[B]? = some (.cells cur 5 (0, 0))) := by
          intro h0
          obtain ⟨hlt, cur, hc⟩ := HBlk5.out h0
          exact ⟨hlt, cur, (hb6.block _ (Array.getElem?_eq_some_iff.1 hc).1).trans hc⟩
        have HB6 : Hid (Below w'.heap.size w' w6) := HB5.out.trans (hb6.mono HB5.out.size)
        clear hb6 HCG HBlk5 HB5 HS5 hs5 q1 HEQ
        go_loopw [10] (fun i wr => ∃ k : Nat, k ≤ n ∧ i = .int .i64 (k : Nat) ∧ wr.cell? ⟨w2.heap.size, 1, none⟩ = some (.slice (some ⟨g, 0, none⟩) acc'.joined.length acc'.joined.length) ∧ (∀ b : Nat, wr.heap[b]? = w6.heap[b]?) ∧ Below w'.heap.size w' wr) (fun i _ => n - (intOf i).toNat)
        case atStart => exact ⟨0, Nat.zero_le _, rfl, q6, fun _ => rfl, HB6.out⟩
        case round =>
          obtain ⟨k, hk, rfl, hqk, hhk, hBk⟩ := hrel
          by_cases hlt : k < n
          · obtain rfl := hv1.out (by omega)
            obtain ⟨hBl, cur, hcur⟩ := HBlk6.out (by omega)
            have hp : (binOp .eql 32 (.pointer (some ⟨B, k, none⟩)) (.pointer (some ⟨g, 0, none⟩))).run Try.prog wr.drew = .ok (.bool false) wr.drew :=
              ptr_other wr.drew B g k 0 cur cg ((hhk B).trans hcur) ((hhk g).trans HCG6.out) (by have := Hg1.out; omega)
            have HHK : Hid (∀ b : Nat, wr.heap[b]? = w6.heap[b]?) := hhk
            have c1 : (k : Int) < (n : Int) := by omega
            clear hhk hcur q6
            go_wp2
            go_region
            go_wp2
            go_roundw
            case rel =>
              have hz : k + 1 ≤ n := by omega
              have hBd := hBk.drew
              have hgn : Value.int .i64 ((k : Int) + 1) = .int .i64 ((k + 1 : Nat) : Int) := by go_num
              exact ⟨k + 1, hz, hgn, hqk, HHK.out, hBd⟩
            case measure => simp [intOf]; omega
          · have HHK : Hid (∀ b : Nat, wr.heap[b]? = w6.heap[b]?) := hhk
            clear hhk q6
            go_wp2
            go_ret
            exact ⟨rfl, hBk⟩
      · go_wp2_with (go_at_call 12; refine HEQ.out.mono ?_; rintro e w6 ⟨rfl, hb6⟩; have q6 := (hb6.cell (p := ⟨w2.heap.size, 1, none⟩) hzs).trans q1)
        go_ret
        exact ⟨rfl, HB5.out.trans (hb6.mono HB5.out.size)⟩

end Go.Proofs.Qxb6605680a
