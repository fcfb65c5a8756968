/-
  Seat b6605680a: THE WALK OF sse.field (19).
-/
import Derived.Test.Qxb6605680aBytes
import Derived.Lib.SlBytesConst
namespace Go.Proofs.Qxb6605680a
open Go.RowKit

theorem Seg.alloc {w : World} {B off : Nat} {l : List UInt8} (h : Seg w B off l) (o : Obj) : Seg (w.alloc o) B off l := fun i hi => Lib.cell?_alloc_marked o (h i hi)
theorem Seg.drew {w : World} {B off : Nat} {l : List UInt8} (h : Seg w B off l) : Seg w.drew B off l := fun i hi => h i hi
theorem Seg.below {w w' : World} {B off n : Nat} {l : List UInt8} (h : Seg w B off l) (hb : Below n w w') (hB : B < n) : Seg w' B off l := fun i hi => by rw [hb.cell (p := ⟨B, off + i, none⟩) hB]; exact h i hi

/-- what field hands back as the value: nil, or a window -/
def IsVal (B o cap : Nat) (T : List UInt8) (v : Value) : Prop :=
  (Sp.colon T = T.length ∧ v = .slice none 0 0) ∨
  (Sp.colon T < T.length ∧ ∃ a c, v = .slice (some ⟨B, a, none⟩) (T.length - Sp.valAt T) c ∧ T.length - Sp.valAt T ≤ c ∧ c ≤ cap ∧ (0 < T.length - Sp.valAt T → a = o + Sp.valAt T))

theorem trimSuffix_k (B o k cap Bs cs : Nat) (l : List UInt8) (c : UInt8) (w : World) (hk : k = l.length) (hkc : l.length ≤ cap) (hm : cap ≤ 140737488355328) (h : Seg w B o l) (g : w.cell? ⟨Bs, 0, none⟩ = some (.int .u8 (c.toNat : Int))) :
    Calls Try.prog 22 #[.slice (some ⟨B, o, none⟩) k cap, .slice (some ⟨Bs, 0, none⟩) 1 cs] w fun e w' => e = .returned (.slice (some ⟨B, o, none⟩) (Sp.chop c l) cap) ∧ w' = w := by
  subst hk; exact trimSuffix_one B o cap Bs cs l c w hkc hm h g

/-- the const row's cell -/
theorem const_cell (w : World) (x : Value) : (w.alloc (Obj.cells #[x] 5 (1, 2))).cell? ⟨w.heap.size, 0, none⟩ = some x := by
  rw [World.cell?_alloc_mark]; rfl

theorem conv_const (w : World) (C : Array Value) (n c b : Nat) (hb : w.heap.size = b) :
    (convert 22 22 (.slice (some ⟨b, 0, none⟩) n c)).run Try.prog (w.alloc (.cells C 5)) = .ok (.slice (some ⟨b, 0, none⟩) n c) (w.alloc (.cells C 5 (C.size, C.size + 1))) := by
  subst hb
  exact Lib.run_convert_bytes_const (P := Try.prog) w 22 5 C n c Try.underlying22 Try.underlying5

theorem conv_const_d (w : World) (C : Array Value) (n c b : Nat) (hb : w.heap.size = b) :
    (convert 22 22 (.slice (some ⟨b, 0, none⟩) n c)).run Try.prog (w.alloc (.cells C 5)).drew = .ok (.slice (some ⟨b, 0, none⟩) n c) (w.alloc (.cells C 5 (C.size, C.size + 1))).drew :=
  conv_const w.drew C n c b hb

theorem cut_none_k (B o k cap Bs cs : Nat) (l : List UInt8) (c : UInt8) (w : World) (hk : k = l.length) (h : Seg w B o l) (g : w.cell? ⟨Bs, 0, none⟩ = some (.int .u8 (c.toNat : Int))) (hx : Lib.indexByte l c = -1) :
    Calls Try.prog 23 #[.slice (some ⟨B, o, none⟩) k cap, .slice (some ⟨Bs, 0, none⟩) 1 cs] w fun e w' => e = .returned (.tuple #[.slice (some ⟨B, o, none⟩) k cap, .slice none 0 0, .bool false]) ∧ w' = w := by
  subst hk; exact cut_none B o cap Bs cs l c w h g hx
theorem cut_some_k (B o k cap Bs cs i : Nat) (l : List UInt8) (c : UInt8) (w : World) (hk : k = l.length) (hkc : l.length ≤ cap) (hm : cap ≤ 140737488355328) (h : Seg w B o l) (g : w.cell? ⟨Bs, 0, none⟩ = some (.int .u8 (c.toNat : Int))) (hx : Lib.indexByte l c = i) (hi : i < l.length) :
    Calls Try.prog 23 #[.slice (some ⟨B, o, none⟩) k cap, .slice (some ⟨Bs, 0, none⟩) 1 cs] w fun e w' => (∃ a, e = .returned (.tuple #[.slice (some ⟨B, o, none⟩) i cap, .slice (some ⟨B, a, none⟩) (k - (i + 1)) (cap - (i + 1)), .bool true]) ∧ (i + 1 < cap → a = o + (i + 1))) ∧ w' = w.drew := by
  subst hk; exact cut_some B o cap Bs cs i l c w hkc hm h g hx hi
theorem trimPrefix_zero_k (s : Option Addr) (k cap Bs cs : Nat) (w : World) (hk : k = 0) :
    Calls Try.prog 24 #[.slice s k cap, .slice (some ⟨Bs, 0, none⟩) 1 cs] w fun e w' => e = .returned (.slice s k cap) ∧ w' = w := by
  subst hk; exact trimPrefix_zero s cap Bs cs w

set_option maxHeartbeats 1000000 in
theorem field_core (B o cap k : Nat) (L T : List UInt8) (w : World) (hkc : L.length ≤ cap) (hm : cap ≤ 140737488355328) (h : Seg w B o L)
    (HT : Hid (Sp.chop 13 (L.take (Sp.chop 10 L)) = k)) (HTT : Hid (L.take k = T)) (HK : Hid (k = T.length)) (hTl : k ≤ L.length) :
    Calls Try.prog 19 #[.slice (some ⟨B, o, none⟩) L.length cap] w fun e w' =>
      (∃ v, e = .returned (.tuple #[.slice (some ⟨B, o, none⟩) (Sp.colon T) cap, v]) ∧ IsVal B o cap T v) ∧ Below w.heap.size w w' := by
  have kc := conv_const
  have kd := conv_const_d
  have hcl := Sp.chop_le 10 L
  have HT1 : Hid ((L.take (Sp.chop 10 L)).length = Sp.chop 10 L) := by unfold Hid; rw [List.length_take]; omega
  have S1 : Seg (w.alloc (Obj.cells #[Value.int .u8 10] 5 (1, 2))) B o L := h.alloc _
  have S2 : Seg ((w.alloc (Obj.cells #[Value.int .u8 10] 5 (1, 2))).alloc (Obj.cells #[Value.int .u8 13] 5 (1, 2))) B o (L.take (Sp.chop 10 L)) := (S1.alloc _).take _
  have S3 : Seg (((w.alloc (Obj.cells #[Value.int .u8 10] 5 (1, 2))).alloc (Obj.cells #[Value.int .u8 13] 5 (1, 2))).alloc (Obj.cells #[Value.int .u8 58] 5 (1, 2))) B o T := by rw [← HTT.out]; exact ((S1.alloc _).alloc _).take _
  have hkT : T.length ≤ cap := by have := HK.out; omega
  have g58 : (((w.alloc (Obj.cells #[Value.int .u8 10] 5 (1, 2))).alloc (Obj.cells #[Value.int .u8 13] 5 (1, 2))).alloc (Obj.cells #[Value.int .u8 58] 5 (1, 2))).cell? ⟨w.heap.size + 1 + 1, 0, none⟩ = some (.int .u8 ((58 : UInt8).toNat : Int)) := by
    have := const_cell ((w.alloc (Obj.cells #[Value.int .u8 10] 5 (1, 2))).alloc (Obj.cells #[Value.int .u8 13] 5 (1, 2))) (.int .u8 58)
    simpa using this
  have S4 := S3.alloc (Obj.cells #[Value.int .u8 32] 5 (1, 2))
  have g32 : ((((w.alloc (Obj.cells #[Value.int .u8 10] 5 (1, 2))).alloc (Obj.cells #[Value.int .u8 13] 5 (1, 2))).alloc (Obj.cells #[Value.int .u8 58] 5 (1, 2))).alloc (Obj.cells #[Value.int .u8 32] 5 (1, 2))).cell? ⟨w.heap.size + 1 + 1 + 1, 0, none⟩ = some (.int .u8 32) := by
    have := const_cell (((w.alloc (Obj.cells #[Value.int .u8 10] 5 (1, 2))).alloc (Obj.cells #[Value.int .u8 13] 5 (1, 2))).alloc (Obj.cells #[Value.int .u8 58] 5 (1, 2))) (.int .u8 32)
    simpa using this
  have HB4 : Hid (Below w.heap.size w ((((w.alloc (Obj.cells #[Value.int .u8 10] 5 (1, 2))).alloc (Obj.cells #[Value.int .u8 13] 5 (1, 2))).alloc (Obj.cells #[Value.int .u8 58] 5 (1, 2))).alloc (Obj.cells #[Value.int .u8 32] 5 (1, 2)))) :=
    ((((Below.refl _ w).alloc (Nat.le_refl _) _).alloc (by simp) _).alloc (by simp; omega) _).alloc (by simp; omega) _
  have hge := Lib.indexByte_ge T 58
  go_enter Try.func19, Try.ntmps19
  go_wp2_with fail
  refine (trimSuffix_one B o cap _ 1 L 10 _ hkc hm S1 (const_cell w _)).mono ?_
  rintro e w' ⟨rfl, rfl⟩
  go_wp2_with fail
  refine (trimSuffix_k B o _ cap _ 1 (L.take (Sp.chop 10 L)) 13 _ HT1.out.symm (by rw [HT1.out]; omega) hm S2 ?_).mono ?_
  · have := const_cell (w.alloc (Obj.cells #[Value.int .u8 10] 5 (1, 2))) (.int .u8 13)
    simpa using this
  rintro e w' ⟨rfl, rfl⟩
  rw [HT.out]
  clear S1 S2 HT HT1 h hcl HTT
  go_wp2_with fail
  by_cases hx : Lib.indexByte T 58 = -1
  · refine (cut_none_k B o k cap _ 1 T 58 _ HK.out S3 g58 hx).mono ?_
    rintro e w' ⟨rfl, rfl⟩
    have hcol : Hid (Sp.colon T = T.length) := Sp.colon_none T hx
    clear hx hge g58
    go_wp2_with fail
    refine (trimPrefix_zero none 0 _ 1 _).mono ?_
    rintro e w' ⟨rfl, rfl⟩
    go_wp2
    go_ret2
    refine ⟨⟨_, ?_, .inl ⟨hcol.out, rfl⟩⟩, HB4.out⟩
    rw [hcol.out, ← HK.out]; rfl
  · obtain ⟨i, hi⟩ : ∃ i : Nat, Lib.indexByte T 58 = i := ⟨(Lib.indexByte T 58).toNat, by omega⟩
    obtain ⟨hcol, hlt⟩ := Sp.colon_some T i hi
    refine (cut_some_k B o k cap _ 1 i T 58 _ HK.out hkT hm S3 g58 hi hlt).mono ?_
    rintro e w' ⟨⟨a, rfl, ha⟩, rfl⟩
    have HC : Hid (Sp.colon T = i) := hcol
    have HA : Hid (i + 1 < cap → a = o + (i + 1)) := ha
    have hk1 : T.length ≤ k := by have := HK.out; omega
    have hk2 : k ≤ T.length := by have := HK.out; omega
    clear hx hge g58 hi hcol ha
    by_cases hz : T.length ≤ i + 1
    · have hv : Hid (Sp.valAt T = i + 1) := by
        unfold Hid Sp.valAt; rw [HC.out, if_pos hlt, if_neg]
        intro e; have := (List.getElem?_eq_some_iff.1 e).1; omega
      go_wp2_with fail
      refine (trimPrefix_zero_k _ (k - (i + 1)) _ _ 1 _ (by omega)).mono ?_
      rintro e w' ⟨rfl, rfl⟩
      go_wp2
      go_ret2
      refine ⟨⟨_, by rw [HC.out]; rfl, .inr ⟨by rw [HC.out]; exact hlt, a, cap - (i + 1), by rw [hv.out, ← HK.out]; rfl, by rw [hv.out]; omega, by omega, by rw [hv.out]; intro h; omega⟩⟩, HB4.out.drew⟩
    · obtain rfl : a = o + (i + 1) := HA.out (by omega)
      have hcell := S4 (i + 1) (by omega)
      have b0 := Sp.bt_lo T (i + 1)
      have b1 := Sp.bt_hi T (i + 1)
      have hif := Sp.bt_iff T (i + 1) (by omega) 32
      generalize Sp.bt T (i + 1) = x at *
      by_cases h32 : x = 32
      · have hv : Hid (Sp.valAt T = i + 2) := by
          unfold Hid Sp.valAt; rw [HC.out, if_pos hlt, if_pos (hif.1 h32)]
        subst h32
        clear hif
        go_wp2_with fail
        refine (trimPrefix_hit B _ (k - (i + 1)) (cap - (i + 1)) _ 1 32 _ (by omega) (by omega) (by omega) (by exact hcell) (by omega) (by omega) (by exact g32)).mono ?_
        rintro e w' ⟨⟨a', rfl, ha'⟩, rfl⟩
        have HA' : Hid (1 < cap - (i + 1) → a' = o + (i + 1) + 1) := ha'
        clear ha'
        go_wp2
        go_ret2
        refine ⟨⟨_, by rw [HC.out]; rfl, .inr ⟨by rw [HC.out]; exact hlt, a', cap - (i + 1) - 1, by rw [hv.out, ← HK.out, show k - (i + 2) = k - (i + 1) - 1 by omega]; rfl, by rw [hv.out]; omega, by omega, by rw [hv.out]; intro h; have := HA'.out (by omega); omega⟩⟩, HB4.out.drew⟩
      · have hv : Hid (Sp.valAt T = i + 1) := by
          unfold Hid Sp.valAt; rw [HC.out, if_pos hlt, if_neg (fun e => h32 (hif.2 e))]
        have hne : (x == 32) = false := by simpa using h32
        clear hif h32
        go_wp2_with fail
        refine (trimPrefix_miss B _ (k - (i + 1)) (cap - (i + 1)) _ 1 x 32 _ (by omega) (by omega) (by omega) (by exact hcell) b0 b1 (by exact g32) (by omega) (by omega) hne).mono ?_
        rintro e w' ⟨rfl, rfl⟩
        go_wp2
        go_ret2
        refine ⟨⟨_, by rw [HC.out]; rfl, .inr ⟨by rw [HC.out]; exact hlt, o + (i + 1), cap - (i + 1), by rw [hv.out, ← HK.out]; rfl, by rw [hv.out]; omega, by omega, by rw [hv.out]; intro h; rfl⟩⟩, HB4.out.drew⟩

theorem field_any (B o cap : Nat) (L : List UInt8) (w : World) (hkc : L.length ≤ cap) (hm : cap ≤ 140737488355328) (h : Seg w B o L) :
    Calls Try.prog 19 #[.slice (some ⟨B, o, none⟩) L.length cap] w fun e w' =>
      (∃ v, e = .returned (.tuple #[.slice (some ⟨B, o, none⟩) (Sp.colon (L.take (Sp.trimLen L))) cap, v]) ∧ IsVal B o cap (L.take (Sp.trimLen L)) v) ∧ Below w.heap.size w w' :=
  field_core B o cap (Sp.trimLen L) L _ w hkc hm h rfl rfl (by unfold Hid; rw [List.length_take]; have := Sp.trimLen_le L; omega) (Sp.trimLen_le L)

end Go.Proofs.Qxb6605680a
