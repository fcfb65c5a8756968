/-
  Seat b6605680a: THE WALKS OF THE LIBRARY's SMALL FUNCTIONS, at the arguments of this road: bytes.Equal (29), HasSuffix (26), TrimSuffix (22), HasPrefix (28), TrimPrefix (24), IndexByte (21), Index (27), Cut (23); suffix, prefix and separator of one byte.
-/
import Derived.Test.Qxb6605680aChecked
import Derived.Test.Qxb6605680aSpec
import Derived.WalkKit
import Derived.Laws.IdiomStrings
import Derived.Lib.BytesEntry
import Derived.RegionTactic
namespace Go.Proofs.Qxb6605680a
open Go.RowKit

theorem ret_int {k : IntKind} {a b : Int} (h : a = b) : Ending.returned (.int k a) = .returned (.int k b) := by rw [h]
theorem ret_bool {a b : Bool} (h : a = b) : Ending.returned (.bool a) = .returned (.bool b) := by rw [h]

/-- the bytes l lie at block B from off on -/
def Seg (w : World) (B off : Nat) (l : List UInt8) : Prop := ∀ i, i < l.length → w.cell? ⟨B, off + i, none⟩ = some (.int .u8 (Sp.bt l i))

theorem add_addr (B o j : Nat) : (⟨B, o, none⟩ : Addr).add j = ⟨B, o + j, none⟩ := by unfold Addr.add; split <;> simp_all

theorem Seg.sub {w : World} {B off : Nat} {l : List UInt8} (h : Seg w B off l) (p k : Nat) : Seg w B (off + p) ((l.drop p).take k) := by
  intro i hi
  rw [List.length_take, List.length_drop] at hi
  have := h (p + i) (by omega)
  rw [Nat.add_assoc, this]
  unfold Sp.bt
  rw [List.getElem?_take, if_pos (by omega), List.getElem?_drop]

theorem Seg.take {w : World} {B off : Nat} {l : List UInt8} (h : Seg w B off l) (k : Nat) : Seg w B off (l.take k) := by
  have := h.sub 0 k
  simpa using this

theorem conv_list (w : World) (B o cap : Nat) (l : List UInt8) (h : Seg w B o l) :
    (convert 22 9 (.slice (some ⟨B, o, none⟩) l.length cap)).run Try.prog w = .ok (.string ⟨l.toArray⟩) w := by
  refine run_convert_bytes_back w 22 9 5 ⟨B, o, none⟩ cap l Try.underlying22 Try.underlying5 Try.underlying9 ?_
  intro j hj
  rw [add_addr, h j hj]
  unfold Sp.bt
  rw [List.getElem?_eq_getElem hj]; rfl

theorem conv_one (w : World) (B o cap : Nat) (x : Int) (h : w.cell? ⟨B, o, none⟩ = some (.int .u8 x)) (h0 : 0 ≤ x) (h1 : x ≤ 255) :
    (convert 22 9 (.slice (some ⟨B, o, none⟩) 1 cap)).run Try.prog w = .ok (.string ⟨#[x.toNat.toUInt8]⟩) w := by
  have e : x.toNat.toUInt8.toNat = x.toNat := by
    simp only [Nat.toUInt8, UInt8.toNat_ofNat']
    omega
  refine conv_list w B o cap [x.toNat.toUInt8] ?_
  intro i hi
  obtain rfl : i = 0 := by simp at hi; omega
  unfold Sp.bt
  simp only [List.getElem?_cons_zero, Option.getD_some, e]
  rw [Nat.add_zero, h]
  congr 2; omega

theorem byte_beq (x y : Int) (h0 : 0 ≤ x) (h1 : x ≤ 255) (g0 : 0 ≤ y) (g1 : y ≤ 255) : (x.toNat.toUInt8 == y.toNat.toUInt8) = (x == y) := by
  rw [Bool.eq_iff_iff]
  simp only [beq_iff_eq]
  constructor
  · intro e
    have := congrArg UInt8.toNat e
    simp only [Nat.toUInt8, UInt8.toNat_ofNat'] at this
    omega
  · intro e; rw [e]

theorem equal_one (B o n cap Bs os cs : Nat) (x y : Int) (w : World) (hn : n = 1) (h : w.cell? ⟨B, o, none⟩ = some (.int .u8 x)) (h0 : 0 ≤ x) (h1 : x ≤ 255) (g : w.cell? ⟨Bs, os, none⟩ = some (.int .u8 y)) (g0 : 0 ≤ y) (g1 : y ≤ 255) :
    Calls Try.prog 29 #[.slice (some ⟨B, o, none⟩) n cap, .slice (some ⟨Bs, os, none⟩) 1 cs] w fun e w' => e = .returned (.bool (x == y)) ∧ w' = w := by
  subst hn
  have c1 := conv_one w B o cap x h h0 h1
  have c2 := conv_one w Bs os cs y g g0 g1
  rw [← byte_beq x y h0 h1 g0 g1]
  generalize x.toNat.toUInt8 = xx at *
  generalize y.toNat.toUInt8 = yy at *
  clear h h0 h1 g g0 g1
  go_enter Try.func29, Try.ntmps29
  go_wp2
  go_ret
  exact ⟨rfl, rfl⟩

/-! ### HasSuffix, TrimSuffix -/
theorem hasSuffix_one (B o k cap Bs cs : Nat) (x y : Int) (w : World) (hk : 1 ≤ k) (hkc : k ≤ cap) (hm : cap ≤ 140737488355328) (h : w.cell? ⟨B, o + (k - 1), none⟩ = some (.int .u8 x)) (h0 : 0 ≤ x) (h1 : x ≤ 255) (g : w.cell? ⟨Bs, 0, none⟩ = some (.int .u8 y)) (g0 : 0 ≤ y) (g1 : y ≤ 255) :
    Calls Try.prog 26 #[.slice (some ⟨B, o, none⟩) k cap, .slice (some ⟨Bs, 0, none⟩) 1 cs] w fun e w' => e = .returned (.bool (x == y)) ∧ w' = w := by
  go_enter Try.func26, Try.ntmps26
  go_wp2_with fail
  refine (equal_one _ _ _ _ _ _ _ x y _ (by omega) h h0 h1 g g0 g1).mono ?_
  rintro e w' ⟨rfl, rfl⟩
  go_wp2
  go_ret
  exact ⟨rfl, rfl⟩

theorem hasSuffix_zero (s : Option Addr) (cap Bs cs : Nat) (w : World) :
    Calls Try.prog 26 #[.slice s 0 cap, .slice (some ⟨Bs, 0, none⟩) 1 cs] w fun e w' => e = .returned (.bool false) ∧ w' = w := by
  go_enter Try.func26, Try.ntmps26
  go_wp2
  go_ret
  exact ⟨rfl, rfl⟩

/-- TrimSuffix at a suffix of one byte -/
theorem trimSuffix_one (B o cap Bs cs : Nat) (l : List UInt8) (c : UInt8) (w : World) (hkc : l.length ≤ cap) (hm : cap ≤ 140737488355328) (h : Seg w B o l) (g : w.cell? ⟨Bs, 0, none⟩ = some (.int .u8 (c.toNat : Int))) :
    Calls Try.prog 22 #[.slice (some ⟨B, o, none⟩) l.length cap, .slice (some ⟨Bs, 0, none⟩) 1 cs] w fun e w' => e = .returned (.slice (some ⟨B, o, none⟩) (Sp.chop c l) cap) ∧ w' = w := by
  have g0 : 0 ≤ (c.toNat : Int) := by omega
  have g1 : (c.toNat : Int) ≤ 255 := by have := c.toNat_lt; omega
  by_cases hk : 1 ≤ l.length
  · have hc := h (l.length - 1) (by omega)
    have b0 := Sp.bt_lo l (l.length - 1)
    have b1 := Sp.bt_hi l (l.length - 1)
    have hiff := Sp.bt_iff l (l.length - 1) (by omega) c
    rw [← List.getLast?_eq_getElem?] at hiff
    generalize Sp.bt l (l.length - 1) = x at *
    have hch : Sp.chop c l = if x = (c.toNat : Int) then l.length - 1 else l.length := by unfold Sp.chop; simp only [hiff]
    have HS : Hid (∀ w', w' = w → Calls Try.prog 26 #[.slice (some ⟨B, o, none⟩) l.length cap, .slice (some ⟨Bs, 0, none⟩) 1 cs] w' fun e w'' => e = .returned (.bool (x == (c.toNat : Int))) ∧ w'' = w') :=
      fun w' hw => by subst hw; exact hasSuffix_one B o l.length cap Bs cs x _ w' hk hkc hm hc b0 b1 g g0 g1
    by_cases he : x = (c.toNat : Int)
    · have hb : (x == (c.toNat : Int)) = true := by simpa using he
      rw [hb] at HS
      rw [if_pos he] at hch
      rw [hch]
      clear he hb hiff hch hc h g b0 b1
      generalize l.length = k at *
      go_enter Try.func22, Try.ntmps22
      go_wp2_with (go_at_call 26; refine (HS.out _ rfl).mono ?_; rintro e w' ⟨rfl, rfl⟩)
      go_ret
      exact ⟨rfl, rfl⟩
    · have hb : (x == (c.toNat : Int)) = false := by simpa using he
      rw [hb] at HS
      rw [if_neg he] at hch
      rw [hch]
      clear he hb hiff hch hc h g b0 b1
      generalize l.length = k at *
      go_enter Try.func22, Try.ntmps22
      go_wp2_with (go_at_call 26; refine (HS.out _ rfl).mono ?_; rintro e w' ⟨rfl, rfl⟩)
      go_ret
      exact ⟨rfl, rfl⟩
  · have hl : l = [] := List.eq_nil_of_length_eq_zero (by omega)
    subst hl
    have hch : Sp.chop c [] = 0 := by simp [Sp.chop]
    rw [hch]
    show Calls Try.prog 22 #[.slice (some ⟨B, o, none⟩) 0 cap, .slice (some ⟨Bs, 0, none⟩) 1 cs] w _
    clear h g
    go_enter Try.func22, Try.ntmps22
    go_wp2_with (go_at_call 26; refine (hasSuffix_zero _ _ _ _ _).mono ?_; rintro e w' ⟨rfl, rfl⟩)
    go_ret
    exact ⟨rfl, rfl⟩

/-! ### HasPrefix, TrimPrefix -/
theorem hasPrefix_one (B o k cap Bs cs : Nat) (x y : Int) (w : World) (hk : 1 ≤ k) (hkc : k ≤ cap) (hm : cap ≤ 140737488355328) (h : w.cell? ⟨B, o, none⟩ = some (.int .u8 x)) (h0 : 0 ≤ x) (h1 : x ≤ 255) (g : w.cell? ⟨Bs, 0, none⟩ = some (.int .u8 y)) (g0 : 0 ≤ y) (g1 : y ≤ 255) :
    Calls Try.prog 28 #[.slice (some ⟨B, o, none⟩) k cap, .slice (some ⟨Bs, 0, none⟩) 1 cs] w fun e w' => e = .returned (.bool (x == y)) ∧ w' = w := by
  go_enter Try.func28, Try.ntmps28
  go_wp2_with fail
  refine (equal_one _ _ _ _ _ _ _ x y _ (by omega) h h0 h1 g g0 g1).mono ?_
  rintro e w' ⟨rfl, rfl⟩
  go_wp2
  go_ret
  exact ⟨rfl, rfl⟩

theorem hasPrefix_zero (s : Option Addr) (cap Bs cs : Nat) (w : World) :
    Calls Try.prog 28 #[.slice s 0 cap, .slice (some ⟨Bs, 0, none⟩) 1 cs] w fun e w' => e = .returned (.bool false) ∧ w' = w := by
  go_enter Try.func28, Try.ntmps28
  go_wp2
  go_ret
  exact ⟨rfl, rfl⟩

/-- TrimPrefix at a prefix of one byte; the slice is empty (nil too) -/
theorem trimPrefix_zero (s : Option Addr) (cap Bs cs : Nat) (w : World) :
    Calls Try.prog 24 #[.slice s 0 cap, .slice (some ⟨Bs, 0, none⟩) 1 cs] w fun e w' => e = .returned (.slice s 0 cap) ∧ w' = w := by
  go_enter Try.func24, Try.ntmps24
  go_wp2_with (go_at_call 28; refine (hasPrefix_zero _ _ _ _ _).mono ?_; rintro e w' ⟨rfl, rfl⟩)
  go_ret
  exact ⟨rfl, rfl⟩

/-- it has an element, which is the prefix -/
theorem trimPrefix_hit (B o k cap Bs cs : Nat) (x : Int) (w : World) (hk : 1 ≤ k) (hkc : k ≤ cap) (hm : cap ≤ 140737488355328) (h : w.cell? ⟨B, o, none⟩ = some (.int .u8 x)) (h0 : 0 ≤ x) (h1 : x ≤ 255) (g : w.cell? ⟨Bs, 0, none⟩ = some (.int .u8 x)) :
    Calls Try.prog 24 #[.slice (some ⟨B, o, none⟩) k cap, .slice (some ⟨Bs, 0, none⟩) 1 cs] w fun e w' => (∃ a, e = .returned (.slice (some ⟨B, a, none⟩) (k - 1) (cap - 1)) ∧ (1 < cap → a = o + 1)) ∧ w' = w := by
  have HS : Hid (∀ w', w' = w → Calls Try.prog 28 #[.slice (some ⟨B, o, none⟩) k cap, .slice (some ⟨Bs, 0, none⟩) 1 cs] w' fun e w'' => e = .returned (.bool true) ∧ w'' = w') :=
    fun w' hw => by
      subst hw
      have := hasPrefix_one B o k cap Bs cs x x w' hk hkc hm h h0 h1 g h0 h1
      rwa [beq_self_eq_true] at this
  clear h g h0 h1
  by_cases hc : cap = 1
  · subst hc
    obtain rfl : k = 1 := by omega
    go_enter Try.func24, Try.ntmps24
    go_wp2_with (go_at_call 28; refine (HS.out _ rfl).mono ?_; rintro e w' ⟨rfl, rfl⟩)
    go_ret
    exact ⟨⟨o, rfl, fun h => by omega⟩, rfl⟩
  · go_enter Try.func24, Try.ntmps24
    go_wp2_with (go_at_call 28; refine (HS.out _ rfl).mono ?_; rintro e w' ⟨rfl, rfl⟩)
    go_ret
    exact ⟨⟨o + 1, rfl, fun _ => rfl⟩, rfl⟩

theorem trimPrefix_miss (B o k cap Bs cs : Nat) (x y : Int) (w : World) (hk : 1 ≤ k) (hkc : k ≤ cap) (hm : cap ≤ 140737488355328) (h : w.cell? ⟨B, o, none⟩ = some (.int .u8 x)) (h0 : 0 ≤ x) (h1 : x ≤ 255) (g : w.cell? ⟨Bs, 0, none⟩ = some (.int .u8 y)) (g0 : 0 ≤ y) (g1 : y ≤ 255) (hne : (x == y) = false) :
    Calls Try.prog 24 #[.slice (some ⟨B, o, none⟩) k cap, .slice (some ⟨Bs, 0, none⟩) 1 cs] w fun e w' => e = .returned (.slice (some ⟨B, o, none⟩) k cap) ∧ w' = w := by
  have HS : Hid (∀ w', w' = w → Calls Try.prog 28 #[.slice (some ⟨B, o, none⟩) k cap, .slice (some ⟨Bs, 0, none⟩) 1 cs] w' fun e w'' => e = .returned (.bool false) ∧ w'' = w') :=
    fun w' hw => by
      subst hw
      have := hasPrefix_one B o k cap Bs cs x y w' hk hkc hm h h0 h1 g g0 g1
      rwa [hne] at this
  clear h g h0 h1 hne g0 g1
  go_enter Try.func24, Try.ntmps24
  go_wp2_with (go_at_call 28; refine (HS.out _ rfl).mono ?_; rintro e w' ⟨rfl, rfl⟩)
  go_ret
  exact ⟨rfl, rfl⟩

/-! ### IndexByte, Index, Cut -/
theorem bytesOf_bt (l : List UInt8) : Lib.bytesOf ((List.range l.length).map (Sp.bt l)) = l := by
  unfold Lib.bytesOf
  apply List.ext_getElem?
  intro i
  by_cases hi : i < l.length
  · simp [hi, Sp.bt]
  · simp [hi]

theorem indexByte_any (B o cap : Nat) (l : List UInt8) (c : Int) (w : World) (h : Seg w B o l) :
    Calls Try.prog 21 #[.slice (some ⟨B, o, none⟩) l.length cap, .int .u8 c] w fun e w' => e = .returned (.int .i64 (Lib.indexByte l c.toNat.toUInt8)) ∧ w' = w := by
  have hrun := Lib.run_indexByteSlice (P := Try.prog) w B o l.length cap ((List.range l.length).map (Sp.bt l)) (by simp) (fun i hi => by
    rw [h i hi]
    simp [List.getD, hi]) c
  rw [bytesOf_bt] at hrun
  go_enter Try.func21, Try.ntmps21
  go_wp2
  rw [run_callFunc_extern Try.func25 (by kernel_rfl) (by kernel_rfl) (by kernel_rfl) (e := Extern.BytealgIndexByte.indexByte) (by kernel_rfl), hrun]
  simp only [Result.andThen]
  rw [Oper.upon_value]
  go_wp2
  go_ret
  exact ⟨rfl, rfl⟩

set_option maxRecDepth 100000 in
set_option maxHeartbeats 1000000 in
theorem index_any (B o cap Bs cs : Nat) (l : List UInt8) (c : UInt8) (w : World) (h : Seg w B o l) (g : w.cell? ⟨Bs, 0, none⟩ = some (.int .u8 (c.toNat : Int))) :
    Calls Try.prog 27 #[.slice (some ⟨B, o, none⟩) l.length cap, .slice (some ⟨Bs, 0, none⟩) 1 cs] w fun e w' => e = .returned (.int .i64 (Lib.indexByte l c)) ∧ w' = w := by
  have HI : Hid (∀ w', w' = w → Calls Try.prog 21 #[.slice (some ⟨B, o, none⟩) l.length cap, .int .u8 (c.toNat : Int)] w' fun e w'' => e = .returned (.int .i64 (Lib.indexByte l c)) ∧ w'' = w') := fun w' hw => by
    subst hw
    have := indexByte_any B o cap l (c.toNat : Int) w' h
    rwa [show ((c.toNat : Int)).toNat.toUInt8 = c by simp] at this
  generalize Lib.indexByte l c = r at *
  generalize ((c.toNat : Nat) : Int) = x at *
  generalize l.length = k at *
  clear h
  go_enter Try.func27, Try.ntmps27
  go_wp2_with (go_at_call 21; refine (HI.out _ rfl).mono ?_; rintro e w' ⟨rfl, rfl⟩)
  go_ret
  exact ⟨rfl, rfl⟩

/-- Cut at a separator of one byte that is not there -/
theorem cut_none (B o cap Bs cs : Nat) (l : List UInt8) (c : UInt8) (w : World) (h : Seg w B o l) (g : w.cell? ⟨Bs, 0, none⟩ = some (.int .u8 (c.toNat : Int))) (hx : Lib.indexByte l c = -1) :
    Calls Try.prog 23 #[.slice (some ⟨B, o, none⟩) l.length cap, .slice (some ⟨Bs, 0, none⟩) 1 cs] w fun e w' => e = .returned (.tuple #[.slice (some ⟨B, o, none⟩) l.length cap, .slice none 0 0, .bool false]) ∧ w' = w := by
  have HI : Hid (∀ w', w' = w → Calls Try.prog 27 #[.slice (some ⟨B, o, none⟩) l.length cap, .slice (some ⟨Bs, 0, none⟩) 1 cs] w' fun e w'' => e = .returned (.int .i64 (-1)) ∧ w'' = w') := fun w' hw => by
    subst hw
    have := index_any B o cap Bs cs l c w' h g
    rwa [hx] at this
  clear hx g h
  generalize l.length = k at *
  go_enter Try.func23, Try.ntmps23
  go_wp2_with (go_at_call 27; refine (HI.out _ rfl).mono ?_; rintro e w' ⟨rfl, rfl⟩)
  go_ret3
  exact ⟨rfl, rfl⟩

/-- .. that stands at i -/
theorem cut_some (B o cap Bs cs i : Nat) (l : List UInt8) (c : UInt8) (w : World) (hkc : l.length ≤ cap) (hm : cap ≤ 140737488355328) (h : Seg w B o l) (g : w.cell? ⟨Bs, 0, none⟩ = some (.int .u8 (c.toNat : Int))) (hx : Lib.indexByte l c = i) (hi : i < l.length) :
    Calls Try.prog 23 #[.slice (some ⟨B, o, none⟩) l.length cap, .slice (some ⟨Bs, 0, none⟩) 1 cs] w fun e w' => (∃ a, e = .returned (.tuple #[.slice (some ⟨B, o, none⟩) i cap, .slice (some ⟨B, a, none⟩) (l.length - (i + 1)) (cap - (i + 1)), .bool true]) ∧ (i + 1 < cap → a = o + (i + 1))) ∧ w' = w.drew := by
  have HI : Hid (∀ w', w' = w → Calls Try.prog 27 #[.slice (some ⟨B, o, none⟩) l.length cap, .slice (some ⟨Bs, 0, none⟩) 1 cs] w' fun e w'' => e = .returned (.int .i64 (i : Int)) ∧ w'' = w') := fun w' hw => by
    subst hw
    have := index_any B o cap Bs cs l c w' h g
    rwa [hx] at this
  clear hx g h
  generalize l.length = k at *
  have c1 : (0 : Int) ≤ ↑i := by omega
  have c2 : (↑i : Int) ≤ ↑k := by omega
  have c3 : (0 : Int) ≤ ↑i + 1 := by omega
  have c4 : (↑i + 1 : Int) ≤ ↑k := by omega
  by_cases hc : i + 1 = cap
  · obtain rfl : k = cap := by omega
    subst hc
    go_enter Try.func23, Try.ntmps23
    go_wp2_with (go_at_call 27; refine (HI.out _ rfl).mono ?_; rintro e w' ⟨rfl, rfl⟩)
    go_region
    all_goals
      go_wp2
      go_ret3
      exact ⟨⟨o, by simp, fun h => by omega⟩, rfl⟩
  · go_enter Try.func23, Try.ntmps23
    go_wp2_with (go_at_call 27; refine (HI.out _ rfl).mono ?_; rintro e w' ⟨rfl, rfl⟩)
    go_region
    all_goals
      go_wp2
      go_ret3
      exact ⟨⟨o + (i + 1), rfl, fun _ => rfl⟩, rfl⟩

end Go.Proofs.Qxb6605680a
