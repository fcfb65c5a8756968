/-
  Seat b6605439a: THE WALKS OF THE SCANNER: skipSpace (20), strings.HasPrefix (23), token (21), plainString (19).
-/
import Derived.Test.Qxb6605439aProg
import Derived.Test.Qxb6605439aChecked
import Derived.WalkKit
import Derived.ProofKit
import Derived.Below
import Derived.Deep.QuietTactic
import Derived.BigQuiet
import Derived.RegionTactic
import Derived.Lib.BufferOwn
import Derived.Lib.Strings
import Derived.Laws.Strings2
import Derived.OwnWalk
namespace Go.Proofs.Qxb6605439a
open Go.RowKit

/-- the scanner: its text, and where it stands -/
def At (w : World) (sb : Nat) (T : ByteArray) (k : Nat) : Prop := w.heap[sb]? = some (.cells #[.string T, .int .i64 (k : Int)] 40)
def atOf (w : World) (sb : Nat) : Nat := match w.cell? ⟨sb, 1, none⟩ with | some (.int _ q) => q.toNat | _ => 0

theorem At.text {w : World} {sb : Nat} {T : ByteArray} {k : Nat} (h : At w sb T k) : w.cell? ⟨sb, 0, none⟩ = some (.string T) := by
  unfold At at h; simp [World.cell?, h]
theorem At.pos {w : World} {sb : Nat} {T : ByteArray} {k : Nat} (h : At w sb T k) : w.cell? ⟨sb, 1, none⟩ = some (.int .i64 (k : Int)) := by
  unfold At at h; simp [World.cell?, h]
theorem At.free {w : World} {sb : Nat} {T : ByteArray} {k : Nat} (h : At w sb T k) : w.frozen? ⟨sb, 1, none⟩ = false := by
  unfold At at h; simp [World.frozen?, h]
theorem At.of {w : World} {sb : Nat} {T : ByteArray} {k : Nat} (h : At w sb T k) : atOf w sb = k := by
  unfold atOf; rw [h.pos]; simp
theorem At.drew {w : World} {sb : Nat} {T : ByteArray} {k : Nat} (h : At w sb T k) : At w.drew sb T k := h
theorem At.set {w : World} {sb : Nat} {T : ByteArray} {k : Nat} (h : At w sb T k) (j : Nat) : At (w.setCell ⟨sb, 1, none⟩ (.int .i64 (j : Int))) sb T j := by
  unfold At at *
  simp [World.setCell, Array.getElem?_modify, h]

/-- white space -/
def sp (c : UInt8) : Prop := c = 32 ∨ c = 9 ∨ c = 10 ∨ c = 13
/-- byte number x -/
def bt (T : ByteArray) (x : Nat) : UInt8 := T.data.toList.getD x 0

theorem bt_eq (T : ByteArray) (x : Nat) (h : x < T.size) : T[x] = bt T x := by
  unfold bt
  rw [List.getD, List.getElem?_eq_getElem (by simpa using h)]
  rfl

theorem byte_of {c : UInt8} {k : Nat} (e : ((c.toNat : Nat) : Int) = k) : c = UInt8.ofNat k := by
  have : c.toNat = k := by omega
  rw [← this, UInt8.ofNat_toNat]
theorem grownBy_drewN {a w : World} {r : Option Nat} (h : a.grownBy w r) (n : Nat) : a.grownBy (w.drewN n) r := ⟨h.os, h.tape, h.output, h.size, h.block⟩
theorem grownBy_drew {a w : World} {r : Option Nat} (h : a.grownBy w r) : a.grownBy w.drew r := ⟨h.os, h.tape, h.output, h.size, h.block⟩

set_option maxRecDepth 100000 in
set_option maxHeartbeats 2000000 in
theorem skip_any (sb : Nat) (T : ByteArray) (k j : Nat) (w : World) (hT : T.size ≤ 1099511627776) (hAt : At w sb T k) (hkj : k ≤ j) (hj : j ≤ T.size)
    (hsp : ∀ x, k ≤ x → x < j → sp (bt T x)) (hend : j < T.size → ¬ sp (bt T j)) :
    Calls Try.prog 20 #[.pointer (some ⟨sb, 0, none⟩)] w fun e w' => e = .returned (.tuple #[]) ∧ At w' sb T j ∧ w.grownBy w' (some sb) := by
  have HS : Hid (∀ x, k ≤ x → x < j → sp (bt T x)) := hsp
  have HE : Hid (j < T.size → ¬ sp (bt T j)) := hend
  have HA : Hid (At w sb T k) := hAt
  clear hsp hend hAt
  go_enter Try.func20, Try.ntmps20
  go_wp2_with fail
  go_loopw [] (fun wr => ∃ x : Nat, k ≤ x ∧ x ≤ j ∧ At wr sb T x ∧ w.grownBy wr (some sb)) (fun wr => T.size - atOf wr sb)
  case atStart => exact ⟨k, Nat.le_refl _, hkj, HA.out, World.grownBy.refl _ _⟩
  case round =>
    obtain ⟨x, h1, h2, hA, hG⟩ := hrel
    have c0 := hA.text
    have c1 := hA.pos
    have f1 := hA.free
    have HA2 : Hid (At wr sb T x) := hA
    have HG : Hid (w.grownBy wr (some sb)) := hG
    clear hA hG
    by_cases hlt : x < T.size
    · have g1 := bt_eq T x hlt
      by_cases hxj : x < j
      · have hs := HS.out x h1 hxj
        rcases hs with e | e | e | e
        all_goals
          have g2 : T[x] = _ := g1.trans e
          clear g1 e
          go_wp2
          go_region
          go_wp2
          go_region
          go_wp2
          go_roundw
          case rel => exact ⟨x + 1, by omega, by omega, HA2.out.drew.drew.set (x + 1), Lib.grownBy_setB (grownBy_drew (grownBy_drew HG.out)) 1 _⟩
          case measure =>
            refine Nat.lt_of_le_of_lt (Nat.le_of_eq (congrArg (T.size - ·) ((HA2.out.set (x + 1)).drew.drew.of))) ?_
            rw [HA2.out.of]
            omega
      · obtain rfl : x = j := by omega
        have hs := HE.out hlt
        rw [← g1] at hs
        unfold sp at hs
        have n1 : (((T[x].toNat : Nat) : Int) == 32) = false := by rw [beq_eq_false_iff_ne]; intro e; exact hs (.inl (byte_of e))
        have n2 : (((T[x].toNat : Nat) : Int) == 9) = false := by rw [beq_eq_false_iff_ne]; intro e; exact hs (.inr (.inl (byte_of e)))
        have n3 : (((T[x].toNat : Nat) : Int) == 10) = false := by rw [beq_eq_false_iff_ne]; intro e; exact hs (.inr (.inr (.inl (byte_of e))))
        have n4 : (((T[x].toNat : Nat) : Int) == 13) = false := by rw [beq_eq_false_iff_ne]; intro e; exact hs (.inr (.inr (.inr (byte_of e))))
        clear g1 hs
        go_wp2
        go_region
        go_wp2
        go_region
        go_wp2
        (try simp only [Exit.inBlock, Exit.then]); refine bodyPost_ret (results_none rfl _ _ _) rfl ?_
        exact ⟨rfl, HA2.out, grownBy_drew (grownBy_drew HG.out)⟩
    · obtain rfl : x = j := by omega
      go_wp2
      go_region
      go_wp2
      go_end0
      exact ⟨rfl, HA2.out, grownBy_drew HG.out⟩

/-- 'strings.HasPrefix' -/
def hp (s p : ByteArray) : Bool := decide ((p.size : Int) ≤ (s.size : Int)) && ((s.extract 0 p.size).toList == p.toList)

theorem prefix27 (s p : ByteArray) (w : World) :
    Calls Try.prog 27 #[.string s, .string p] w fun e w' => e = .returned (.bool (hp s p)) ∧ w' = w := by
  by_cases h1 : (p.size : Int) ≤ (s.size : Int)
  · have H : Hid (hp s p = ((s.extract 0 p.size).toList == p.toList)) := by unfold Hid hp; simp [h1]
    go_enter Try.func27, Try.ntmps27
    go_wp2
    go_ret
    exact ⟨by rw [H.out]; rfl, rfl⟩
  · have H : Hid (hp s p = false) := by unfold Hid hp; simp [h1]
    go_enter Try.func27, Try.ntmps27
    go_wp2
    go_ret
    exact ⟨by rw [H.out]; rfl, rfl⟩

theorem prefix23 (s p : ByteArray) (w : World) :
    Calls Try.prog 23 #[.string s, .string p] w fun e w' => e = .returned (.bool (hp s p)) ∧ w' = w := by
  go_enter Try.func23, Try.ntmps23
  go_wp2_with (go_at_call 27; refine (prefix27 s p _).mono ?_; rintro e w' ⟨rfl, rfl⟩)
  go_ret
  exact ⟨rfl, rfl⟩

set_option maxRecDepth 100000 in
set_option maxHeartbeats 2000000 in
theorem token_any (sb : Nat) (T p : ByteArray) (k j : Nat) (w : World) (hT : T.size ≤ 1099511627776) (hq : p.size ≤ 1099511627776) (hAt : At w sb T k) (hkj : k ≤ j) (hj : j ≤ T.size)
    (hsp : ∀ x, k ≤ x → x < j → sp (bt T x)) (hend : j < T.size → ¬ sp (bt T j)) (b : Bool) (hb : hp (T.extract j T.size) p = b) :
    Calls Try.prog 21 #[.pointer (some ⟨sb, 0, none⟩), .string p] w fun e w' => e = .returned (.bool b) ∧ At w' sb T (if b = true then j + p.size else j) ∧ w.grownBy w' (some sb) := by
  have HK : Hid (Calls Try.prog 20 #[.pointer (some ⟨sb, 0, none⟩)] w fun e w' => e = .returned (.tuple #[]) ∧ At w' sb T j ∧ w.grownBy w' (some sb)) := skip_any sb T k j w hT hAt hkj hj hsp hend
  clear hsp hend hAt
  have HP : Hid (∀ W, Calls Try.prog 23 #[.string (T.extract j T.size), .string p] W fun e w' => e = .returned (.bool b) ∧ w' = W) := fun W => by
    rw [← hb]; exact prefix23 _ p W
  clear hb
  have hj2 : (j : Int) ≤ (T.size : Int) := by omega
  cases b with
  | true =>
    go_enter Try.func21, Try.ntmps21
    go_wp2_with fail
    refine HK.out.mono ?_
    rintro r w1 ⟨rfl, hA, hG⟩
    have c0 := hA.text
    have c1 := hA.pos
    have f1 := hA.free
    have HA2 : Hid (At w1 sb T j) := hA
    have HG : Hid (w.grownBy w1 (some sb)) := hG
    clear hA hG
    go_wp2
    go_quiet ((go_at_call 23; exact Calls.quiet_of_same (HP.out _)))
    all_goals go_wp2
    all_goals go_ret
    all_goals exact ⟨rfl, HA2.out.set (j + p.size), Lib.grownBy_setB (grownBy_drewN HG.out _) 1 _⟩
  | false =>
    go_enter Try.func21, Try.ntmps21
    go_wp2_with fail
    refine HK.out.mono ?_
    rintro r w1 ⟨rfl, hA, hG⟩
    have c0 := hA.text
    have c1 := hA.pos
    have HA2 : Hid (At w1 sb T j) := hA
    have HG : Hid (w.grownBy w1 (some sb)) := hG
    clear hA hG
    go_wp2
    go_quiet ((go_at_call 23; exact Calls.quiet_of_same (HP.out _)))
    all_goals go_wp2
    all_goals go_ret
    all_goals exact ⟨rfl, HA2.out, grownBy_drewN HG.out _⟩

/-- printable, and no escape, and no quote -/
def pr (c : UInt8) : Prop := 32 ≤ c.toNat ∧ c.toNat ≤ 126 ∧ c.toNat ≠ 92 ∧ c.toNat ≠ 34

theorem hp_list (T p : ByteArray) (j : Nat) : hp (T.extract j T.size) p = decide ((T.data.toList.drop j).take p.size = p.data.toList) := by
  have e1 : (T.extract j T.size).data.toList = T.data.toList.drop j := by
    rw [← Lib.toList_data, Lib.extract_toList]
    rw [List.take_of_length_le (by simp)]
  unfold hp
  rw [Lib.extract_toList, e1, Lib.toList_data]
  have hs : (T.extract j T.size).size = (T.data.toList.drop j).length := by rw [← e1]; simp
  rw [hs]
  simp only [List.drop_zero, Nat.sub_zero]
  rw [Bool.eq_iff_iff]
  simp only [Bool.and_eq_true, decide_eq_true_eq, beq_iff_eq]
  constructor
  · exact fun h => h.2
  · intro h
    refine ⟨?_, h⟩
    have := congrArg List.length h
    simp at this
    simp
    omega

set_option maxRecDepth 100000 in
set_option maxHeartbeats 2000000 in
theorem plain_any (sb : Nat) (T : ByteArray) (k j l : Nat) (w : World) (hT : T.size ≤ 1099511627776) (hAt : At w sb T k) (hkj : k ≤ j) (hjl : j < l) (hl : l < T.size)
    (hsp : ∀ x, k ≤ x → x < j → sp (bt T x)) (hj : bt T j = 34) (hpr : ∀ x, j < x → x < l → pr (bt T x)) (hq : bt T l = 34) :
    Calls Try.prog 19 #[.pointer (some ⟨sb, 0, none⟩)] w fun e w' => e = .returned (.tuple #[.string (T.extract (j + 1) l), .bool true]) ∧ At w' sb T (l + 1) ∧ w.grownBy w' (some sb) := by
  have HT := token_any sb T ⟨#[34]⟩ k j w hT (by decide) hAt hkj (by omega) hsp (fun _ => by rw [hj]; unfold sp; decide) true (by
    rw [hp_list, decide_eq_true_eq]
    have hl : j < T.data.toList.length := by simp; omega
    have e := hj
    unfold bt at e
    rw [List.getD, List.getElem?_eq_getElem hl] at e
    rw [List.drop_eq_getElem_cons hl]
    simp at e
    show List.take 1 (_ :: _) = [34]
    simp [e])
  have HTT : Hid (Calls Try.prog 21 #[.pointer (some ⟨sb, 0, none⟩), .string ⟨#[34]⟩] w fun e w' => e = .returned (.bool true) ∧ At w' sb T (j + 1) ∧ w.grownBy w' (some sb)) := HT
  have HPR : Hid (∀ x, j < x → x < l → pr (bt T x)) := hpr
  have HQ : Hid (bt T l = 34) := hq
  clear HT hsp hj hpr hq hAt
  go_enter Try.func19, Try.ntmps19
  go_wp2_with fail
  refine HTT.out.mono ?_
  rintro r w1 ⟨rfl, hA, hG⟩
  have c1 := hA.pos
  have HA2 : Hid (At w1 sb T (j + 1)) := hA
  have HG : Hid (w.grownBy w1 (some sb)) := hG
  clear hA hG
  go_wp2
  go_loopw [] (fun wr => ∃ x : Nat, j + 1 ≤ x ∧ x ≤ l ∧ At wr sb T x ∧ w.grownBy wr (some sb)) (fun wr => T.size - atOf wr sb)
  case atStart => exact ⟨j + 1, Nat.le_refl _, hjl, HA2.out, HG.out⟩
  case round =>
    obtain ⟨x, h1, h2, hA, hG⟩ := hrel
    clear HA2 HG c1
    have c0 := hA.text
    have c1 := hA.pos
    have f1 := hA.free
    have HA2 : Hid (At wr sb T x) := hA
    have HG : Hid (w.grownBy wr (some sb)) := hG
    clear hA hG
    have hlt : x < T.size := by omega
    have g1 := bt_eq T x hlt
    by_cases hxl : x < l
    · have hs := HPR.out x (by omega) hxl
      rw [← g1] at hs
      obtain ⟨p1, p2, p3, p4⟩ := hs
      have q1 : (((T[x].toNat : Nat) : Int) == 34) = false := by rw [beq_eq_false_iff_ne]; omega
      have q2 : ¬ (((T[x].toNat : Nat) : Int) < 32) := by omega
      have q3 : ¬ (126 < ((T[x].toNat : Nat) : Int)) := by omega
      have q4 : (((T[x].toNat : Nat) : Int) == 92) = false := by rw [beq_eq_false_iff_ne]; omega
      clear g1 p1 p2 p3 p4
      go_wp2
      go_region
      go_wp2
      go_region
      go_wp2
      go_roundw
      case rel => exact ⟨x + 1, by omega, by omega, HA2.out.drew.drew.set (x + 1), Lib.grownBy_setB (grownBy_drew (grownBy_drew HG.out)) 1 _⟩
      case measure =>
        refine Nat.lt_of_le_of_lt (Nat.le_of_eq (congrArg (T.size - ·) ((HA2.out.set (x + 1)).drew.drew.of))) ?_
        rw [HA2.out.of]
        omega
    · obtain rfl : x = l := by omega
      have g2 : T[x] = 34 := g1.trans HQ.out
      have hsl : ∀ W : World, (Instr.slice 9 (.string T) (some (.int .i64 ((j : Int) + 1))) (some (.int .i64 (x : Int))) none).run Try.prog W = .ok (.string (T.extract (j + 1) x)) W := fun W => by
        have e := run_slice_string (P := Try.prog) (w := W) 9 T .i64 .i64 ((j : Int) + 1) (x : Int) Try.underlying9 (by omega) (by omega) (by omega)
        rw [show ((j : Int) + 1).toNat = j + 1 by omega, Int.toNat_natCast] at e
        exact e
      clear g1
      go_wp2
      go_region
      go_wp2
      go_region
      go_wp2
      go_region
      go_wp2
      go_ret2
      exact ⟨rfl, HA2.out.drew.drew.set (x + 1), grownBy_drew (Lib.grownBy_setB (grownBy_drew (grownBy_drew HG.out)) 1 _)⟩

theorem bt_drop {T : ByteArray} {k : Nat} {L : List UInt8} (h : T.data.toList.drop k = L) (i : Nat) : bt T (k + i) = L.getD i 0 := by
  subst h
  unfold bt
  simp only [List.getD, List.getElem?_drop]
theorem len_drop {T : ByteArray} {k : Nat} {L : List UInt8} (h : T.data.toList.drop k = L) (hk : k ≤ T.size) : T.size = k + L.length := by
  have := congrArg List.length h
  simp at this
  omega
theorem sp_in {T : ByteArray} {k : Nat} {S R : List UInt8} (h : T.data.toList.drop k = S ++ R) (hS : ∀ c ∈ S, sp c) : ∀ x, k ≤ x → x < k + S.length → sp (bt T x) := by
  intro x h1 h2
  have e := bt_drop h (x - k)
  rw [show k + (x - k) = x by omega] at e
  have hi : x - k < S.length := by omega
  rw [e, List.getD, List.getElem?_append_left hi, List.getElem?_eq_getElem hi]
  exact hS _ (List.getElem_mem hi)
theorem drop_more {T : ByteArray} {k : Nat} {A R : List UInt8} (h : T.data.toList.drop k = A ++ R) : T.data.toList.drop (k + A.length) = R := by
  rw [← List.drop_drop, h, List.drop_left]

/-! ### in lists -/
theorem skip_end (sb : Nat) (T : ByteArray) (k : Nat) (w : World) (S : List UInt8) (hT : T.size ≤ 1099511627776) (hk : k ≤ T.size) (hAt : At w sb T k) (hd : T.data.toList.drop k = S) (hS : ∀ c ∈ S, sp c) :
    Calls Try.prog 20 #[.pointer (some ⟨sb, 0, none⟩)] w fun e w' => e = .returned (.tuple #[]) ∧ At w' sb T T.size ∧ w.grownBy w' (some sb) := by
  have hl := len_drop hd hk
  refine skip_any sb T k T.size w hT hAt hk (Nat.le_refl _) (fun x h1 h2 => ?_) (fun h => by omega)
  exact sp_in (R := []) (by simpa using hd) hS x h1 (by omega)

theorem tok_hit (sb : Nat) (T p : ByteArray) (k : Nat) (w : World) (S R : List UInt8) (c : UInt8) (p' : List UInt8) (hT : T.size ≤ 1099511627776) (hk : k ≤ T.size) (hAt : At w sb T k)
    (hd : T.data.toList.drop k = S ++ (p.data.toList ++ R)) (hS : ∀ c ∈ S, sp c) (hp' : p.data.toList = c :: p') (hc : ¬ sp c) :
    Calls Try.prog 21 #[.pointer (some ⟨sb, 0, none⟩), .string p] w fun e w' => e = .returned (.bool true) ∧ At w' sb T (k + S.length + p.size) ∧ w.grownBy w' (some sb) := by
  have hl := len_drop hd hk
  simp only [List.length_append, Array.length_toList, ByteArray.size_data] at hl
  refine token_any sb T p k (k + S.length) w hT (by omega) hAt (by omega) (by omega) (sp_in hd hS) (fun _ => ?_) true ?_
  · rw [bt_drop hd S.length, hp']
    simpa using hc
  · rw [hp_list, decide_eq_true_eq, drop_more hd]
    rw [List.take_left' (by simp)]

theorem tok_miss (sb : Nat) (T : ByteArray) (q : UInt8) (k : Nat) (w : World) (S R : List UInt8) (c : UInt8) (hT : T.size ≤ 1099511627776) (hk : k ≤ T.size) (hAt : At w sb T k)
    (hd : T.data.toList.drop k = S ++ (c :: R)) (hS : ∀ c ∈ S, sp c) (hcq : c ≠ q) (hc : ¬ sp c) :
    Calls Try.prog 21 #[.pointer (some ⟨sb, 0, none⟩), .string ⟨#[q]⟩] w fun e w' => e = .returned (.bool false) ∧ At w' sb T (k + S.length) ∧ w.grownBy w' (some sb) := by
  have hl := len_drop hd hk
  simp only [List.length_append, List.length_cons] at hl
  refine token_any sb T ⟨#[q]⟩ k (k + S.length) w hT (by show 1 ≤ _; omega) hAt (by omega) (by omega) (sp_in hd hS) (fun _ => ?_) false ?_
  · rw [bt_drop hd S.length]
    simpa using hc
  · rw [hp_list, decide_eq_false_iff_not, drop_more hd]
    show ¬ List.take 1 (c :: R) = [q]
    simpa using hcq

theorem str_hit (sb : Nat) (T : ByteArray) (k : Nat) (w : World) (S A R : List UInt8) (hT : T.size ≤ 1099511627776) (hk : k ≤ T.size) (hAt : At w sb T k)
    (hd : T.data.toList.drop k = S ++ (34 :: (A ++ (34 :: R)))) (hS : ∀ c ∈ S, sp c) (hA : ∀ c ∈ A, pr c) :
    Calls Try.prog 19 #[.pointer (some ⟨sb, 0, none⟩)] w fun e w' => e = .returned (.tuple #[.string ⟨A.toArray⟩, .bool true]) ∧ At w' sb T (k + S.length + 1 + A.length + 1) ∧ w.grownBy w' (some sb) := by
  have hl := len_drop hd hk
  simp only [List.length_append, List.length_cons] at hl
  have hd1 := drop_more hd
  have hd2 : T.data.toList.drop (k + S.length + 1) = A ++ (34 :: R) := drop_more (A := [34]) hd1
  have hd3 := drop_more hd2
  have e : T.extract (k + S.length + 1) (k + S.length + 1 + A.length) = ⟨A.toArray⟩ := by
    rw [Lib.extract_eq, hd2, show k + S.length + 1 + A.length - (k + S.length + 1) = A.length by omega, List.take_left]
  rw [← e]
  refine plain_any sb T k (k + S.length) (k + S.length + 1 + A.length) w hT hAt (by omega) (by omega) (by omega) (sp_in hd hS) ?_ (fun x h1 h2 => ?_) ?_
  · rw [bt_drop hd S.length]; simp
  · have e := bt_drop hd2 (x - (k + S.length + 1))
    rw [show k + S.length + 1 + (x - (k + S.length + 1)) = x by omega] at e
    have hi : x - (k + S.length + 1) < A.length := by omega
    rw [e, List.getD, List.getElem?_append_left hi, List.getElem?_eq_getElem hi]
    exact hA _ (List.getElem_mem hi)
  · have e := bt_drop hd3 0
    simpa using e

end Go.Proofs.Qxb6605439a
