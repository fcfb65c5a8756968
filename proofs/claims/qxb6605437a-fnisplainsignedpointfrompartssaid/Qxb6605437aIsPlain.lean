/-
  Seat b6605437a: THE WALKS OF isDigits (20), strings.TrimPrefix at a prefix of one byte (23), strings.Cut at a separator of one byte (22), isPlain (21), ZZisPlain (15).
-/
import Derived.Test.Qxb6605437aAuto
import Derived.Laws.IdiomStrings
import Derived.Lib.Strings
import Derived.Lib.Bytealg
import Derived.RegionTactic
namespace Go.Proofs.Qxb6605437a
open Go.RowKit

theorem dig_step {l : List UInt8} {k : Nat} (hlt : k < l.length) (H : Hid ((l.drop k).all Pl.dig = l.all Pl.dig)) (hd : Pl.dig (l.getD k 0) = true) :
    Hid ((l.drop (k + 1)).all Pl.dig = l.all Pl.dig) := by
  have e := H.out
  rw [List.drop_eq_getElem_cons hlt] at e
  have : l.getD k 0 = l[k] := by simp [List.getD, hlt]
  rw [this] at hd
  rw [List.all_cons, hd, Bool.true_and] at e
  exact e

theorem dig_stop {l : List UInt8} {k : Nat} (hlt : k < l.length) (hd : Pl.dig (l.getD k 0) = false) : Pl.digs l = false := by
  have : l.getD k 0 = l[k] := by simp [List.getD, hlt]
  rw [this] at hd
  unfold Pl.digs
  have : l.all Pl.dig = false := by
    rw [List.all_eq_false]
    exact ⟨l[k], List.getElem_mem hlt, by simp [hd]⟩
  rw [this]; simp

theorem byte_le (c : UInt8) : ((c.toNat : Nat) : Int) ≤ 255 := by have := c.toNat_lt; omega

set_option maxHeartbeats 1000000 in
theorem isDigits_some (s : ByteArray) (w : World) (cap : Nat) (C : Array Value) (hs : s.size ≤ 9223372036854775807) (h0 : 0 < s.size) (hne : s.toList.isEmpty = false)
    (hconv : (convert 9 28 (.string s)).run Try.prog w = .ok (.slice (some ⟨w.heap.size, 0, none⟩) s.size cap) (w.drew.alloc (.cells C 5 (C.size, C.size + 1))))
    (hC : ∀ j, j < s.size → (w.alloc (.cells C 5 (C.size, C.size + 1))).cell? ⟨w.heap.size, j, none⟩ = some (.int .u8 ((s.data.toList.getD j 0).toNat : Int))) :
    Calls Try.prog 20 #[.string s] w fun e w' => e = .returned (.bool (Pl.digs s.data.toList)) ∧ w' = (w.alloc (.cells C 5 (C.size, C.size + 1))).drew := by
  go_enter Try.func20, Try.ntmps20
  go_wp2
  go_loop [10] (fun i => ∃ k : Nat, k ≤ s.size ∧ i = .int .i64 k ∧ Hid ((s.data.toList.drop k).all Pl.dig = s.data.toList.all Pl.dig)) (fun i => s.size - (intOf i).toNat)
  case atStart => exact ⟨0, Nat.zero_le _, rfl, rfl⟩
  case round =>
    obtain ⟨k, hk, rfl, H⟩ := hrel
    have hll : s.data.toList.length = s.size := by simp
    by_cases hlt : k < s.size
    · obtain ⟨cv, hcv⟩ : ∃ cv : Int, cv = ((s.data.toList.getD k 0).toNat : Int) := ⟨_, rfl⟩
      have hcv0 : 0 ≤ cv := by omega
      have hcv1 : cv ≤ 255 := by rw [hcv]; exact byte_le _
      have hcell : (w.alloc (.cells C 5 (C.size, C.size + 1))).cell? ⟨w.heap.size, k, none⟩ = some (.int .u8 cv) := by rw [hcv]; exact hC k hlt
      have hy : 48 ≤ cv → cv ≤ 57 → Hid ((s.data.toList.drop (k + 1)).all Pl.dig = s.data.toList.all Pl.dig) := fun a b =>
        dig_step (by omega) H (by unfold Pl.dig; rw [← hcv]; simp [a, b])
      have hn : (cv < 48 ∨ 57 < cv) → Hid (Pl.digs s.data.toList = false) := fun a =>
        dig_stop (k := k) (by omega) (by unfold Pl.dig; rw [← hcv]; simp; omega)
      clear hcv hC hconv hll
      go_wp2
      · go_ret
        exact ⟨ret_bool (hn (by omega)).out.symm, rfl⟩
      · go_round
        case rel => exact ⟨k + 1, by omega, by go_num, hy (by omega) (by omega)⟩
        case measure => simp [intOf]; omega
      · go_ret
        exact ⟨ret_bool (hn (by omega)).out.symm, rfl⟩
    · have hf : Hid (Pl.digs s.data.toList = true) := by
        have e := H.out
        rw [List.drop_of_length_le (by omega)] at e
        unfold Hid Pl.digs
        rw [← e]
        cases hl : s.data.toList with
        | nil => rw [hl] at hll; simp at hll; omega
        | cons a l => rfl
      clear hC hconv hll
      go_wp2
      go_ret
      exact ⟨ret_bool hf.out.symm, rfl⟩

theorem isDigits_none (w : World) : Calls Try.prog 20 #[.string ByteArray.empty] w fun e w' => e = .returned (.bool false) ∧ w' = w := by
  go_enter Try.func20, Try.ntmps20
  go_wp2
  go_ret
  exact ⟨rfl, rfl⟩

theorem isDigits_any (s : ByteArray) (w : World) (hs : s.size ≤ 9223372036854775807) :
    Calls Try.prog 20 #[.string s] w fun e w' => e = .returned (.bool (Pl.digs s.data.toList)) ∧ Below w.heap.size w w' := by
  by_cases h0 : 0 < s.size
  · refine (isDigits_some s w _ _ hs h0 ?_ (run_bytes_of_string w 9 28 5 s Try.underlying9 Try.underlying28 Try.underlying5) ?_).mono ?_
    · rw [Lib.toList_data]
      cases hl : s.data.toList with
      | nil =>
        have : s.data.toList.length = s.size := by simp
        rw [hl] at this; simp at this; omega
      | cons a l => rfl
    · intro j hj
      rw [World.cell?_alloc_mark, bytesRow_at s _ j (by simpa using hj)]
      simp [List.getD, hj]
    · rintro e w' ⟨rfl, rfl⟩
      exact ⟨rfl, ((Below.refl _ _).alloc (Nat.le_refl _) _).drew⟩
  · have : s = ByteArray.empty := by
      have h : s.size = 0 := by omega
      exact ByteArray.size_eq_zero_iff.1 h
    subst this
    refine (isDigits_none w).mono ?_
    rintro e w' ⟨rfl, rfl⟩
    exact ⟨rfl, Below.refl _ _⟩

/-! ### strings.TrimPrefix at "-" -/
theorem trim_hit (s : ByteArray) (h2 : ((s.extract 0 1).toList == [45]) = true) : (⟨(Pl.trim1 45 s.data.toList).toArray⟩ : ByteArray) = s.extract 1 s.size := by
  rw [Lib.extract_toList, beq_iff_eq] at h2
  rw [Lib.extract_eq]
  cases hl : s.data.toList with
  | nil => rw [hl] at h2; simp at h2
  | cons a l =>
    rw [hl] at h2
    simp at h2
    subst h2
    have : s.size = l.length + 1 := by have : s.data.toList.length = s.size := by simp
                                       rw [← this, hl]; rfl
    simp [Pl.trim1, this]

theorem trim_miss (s : ByteArray) (h2 : 1 ≤ s.size → ((s.extract 0 1).toList == [45]) = false) : (⟨(Pl.trim1 45 s.data.toList).toArray⟩ : ByteArray) = s := by
  have : Pl.trim1 45 s.data.toList = s.data.toList := by
    cases hl : s.data.toList with
    | nil => rfl
    | cons a l =>
      have : s.size = l.length + 1 := by have : s.data.toList.length = s.size := by simp
                                         rw [← this, hl]; rfl
      have h := h2 (by omega)
      rw [Lib.extract_toList, hl] at h
      simp at h
      simp [Pl.trim1, h]
  rw [this, Lib.mk_data]

set_option maxHeartbeats 1000000 in
theorem trim_any (s : ByteArray) (w : World) :
    Calls Try.prog 23 #[.string s, .string ⟨#[45]⟩] w fun e w' => e = .returned (.string ⟨(Pl.trim1 45 s.data.toList).toArray⟩) ∧ w' = w := by
  by_cases h1 : 1 ≤ s.size
  · cases h2 : ((s.extract 0 1).toList == [45])
    · have HT : Hid ((⟨(Pl.trim1 45 s.data.toList).toArray⟩ : ByteArray) = s) := trim_miss s (fun _ => h2)
      generalize (Pl.trim1 45 s.data.toList) = T at *
      go_enter Try.func23, Try.ntmps23
      go_wp2
      go_ret
      exact ⟨by rw [HT.out]; rfl, rfl⟩
    · have HT : Hid ((⟨(Pl.trim1 45 s.data.toList).toArray⟩ : ByteArray) = s.extract 1 s.size) := trim_hit s h2
      generalize (Pl.trim1 45 s.data.toList) = T at *
      go_enter Try.func23, Try.ntmps23
      go_wp2
      go_ret
      exact ⟨by rw [HT.out]; rfl, rfl⟩
  · have HT : Hid ((⟨(Pl.trim1 45 s.data.toList).toArray⟩ : ByteArray) = s) := trim_miss s (fun h => absurd h h1)
    generalize (Pl.trim1 45 s.data.toList) = T at *
    go_enter Try.func23, Try.ntmps23
    go_wp2
    go_ret
    exact ⟨by rw [HT.out]; rfl, rfl⟩

/-! ### strings.Cut at "." -/
set_option maxHeartbeats 1000000 in
theorem indexByte_any (s : ByteArray) (c : Int) (w : World) :
    Calls Try.prog 28 #[.string s, .int .u8 c] w fun e w' => e = .returned (.int .i64 (Lib.indexByte s.data.toList c.toNat.toUInt8)) ∧ w' = w := by
  go_enter Try.func28, Try.ntmps28
  go_wp2
  rw [run_callFunc_extern Try.func32 (by kernel_rfl) (by kernel_rfl) (by kernel_rfl) (e := Extern.BytealgIndexByte.indexByte) (by kernel_rfl), Lib.run_indexByteString]
  simp only [Result.andThen]
  rw [Oper.upon_value]
  go_wp2
  go_ret
  exact ⟨rfl, rfl⟩

set_option maxHeartbeats 1000000 in
theorem index_any (s : ByteArray) (w : World) :
    Calls Try.prog 26 #[.string s, .string ⟨#[46]⟩] w fun e w' => e = .returned (.int .i64 (Lib.indexByte s.data.toList 46)) ∧ w' = w := by
  go_enter Try.func26, Try.ntmps26
  go_wp2_with (go_at_call 28; refine (indexByte_any _ _ _).mono ?_; rintro e w' ⟨rfl, rfl⟩)
  · have h : ([46] == s.toList) = true := by assumption
    go_ret
    refine ⟨?_, rfl⟩
    have e : s.data.toList = [46] := by rw [← Lib.toList_data]; exact (beq_iff_eq.1 h).symm
    rw [e]
    simp [Lib.indexByte]
  · go_ret
    exact ⟨rfl, rfl⟩

theorem cut_hit (s : ByteArray) (i : Nat) (h : Lib.indexByte s.data.toList 46 = i) :
    (⟨(Pl.cutAt 46 s.data.toList).1.toArray⟩ : ByteArray) = s.extract 0 i ∧ (⟨(Pl.cutAt 46 s.data.toList).2.1.toArray⟩ : ByteArray) = s.extract (i + 1) s.size ∧ (Pl.cutAt 46 s.data.toList).2.2 = true ∧ i < s.size := by
  obtain ⟨e, hi⟩ := Pl.cut_some 46 _ i h
  rw [e]
  refine ⟨?_, ?_, rfl, by simpa using hi⟩
  · rw [Lib.extract_eq]; simp
  · have ht : List.take (s.size - (i + 1)) (List.drop (i + 1) s.data.toList) = List.drop (i + 1) s.data.toList :=
      List.take_of_length_le (by rw [List.length_drop, ← Lib.size_eq]; exact Nat.le_refl _)
    rw [Lib.extract_eq, ht]

set_option maxHeartbeats 2000000 in
theorem cut24 (s : ByteArray) (w : World) (hs : s.size ≤ 9223372036854775806) :
    Calls Try.prog 24 #[.string s, .string ⟨#[46]⟩] w fun e w' => e = .returned (.tuple #[.string ⟨(Pl.cutAt 46 s.data.toList).1.toArray⟩, .string ⟨(Pl.cutAt 46 s.data.toList).2.1.toArray⟩, .bool (Pl.cutAt 46 s.data.toList).2.2]) ∧ Below w.heap.size w w' := by
  have hge := Lib.indexByte_ge s.data.toList 46
  by_cases hx : Lib.indexByte s.data.toList 46 = -1
  · have e := Pl.cut_none 46 _ hx
    rw [e]
    have HX : Hid (Lib.indexByte s.data.toList 46 = -1) := hx
    have HM : Hid ((⟨s.data.toList.toArray⟩ : ByteArray) = s) := Lib.mk_data s
    generalize s.data.toList.toArray = T at HM ⊢
    clear hx e hge
    go_enter Try.func24, Try.ntmps24
    go_wp2_with (go_at_call 26; refine (index_any _ _).mono ?_; rintro e w' ⟨rfl, rfl⟩; rw [HX.out])
    go_ret3
    exact ⟨by rw [HM.out]; rfl, Below.refl _ _⟩
  · obtain ⟨i, hi⟩ : ∃ i : Nat, Lib.indexByte s.data.toList 46 = i := ⟨(Lib.indexByte s.data.toList 46).toNat, by omega⟩
    obtain ⟨e1, e2, e3, hlt⟩ := cut_hit s i hi
    rw [e1, e2, e3]
    have HX : Hid (Lib.indexByte s.data.toList 46 = i) := hi
    clear hx e1 e2 e3 hge hi
    have c1 : (0 : Int) ≤ ↑i := by omega
    have c2 : (↑i : Int) ≤ ↑s.size := by omega
    have c3 : (0 : Int) ≤ ↑i + 1 := by omega
    have c4 : (↑i + 1 : Int) ≤ ↑s.size := by omega
    go_enter Try.func24, Try.ntmps24
    go_wp2_with (go_at_call 26; refine (index_any _ _).mono ?_; rintro e w' ⟨rfl, rfl⟩; rw [HX.out])
    go_region
    all_goals
      go_wp2
      go_ret3
      exact ⟨rfl, (Below.refl _ _).drew⟩

theorem cut_any (s : ByteArray) (w : World) (hs : s.size ≤ 9223372036854775806) :
    Calls Try.prog 22 #[.string s, .string ⟨#[46]⟩] w fun e w' => e = .returned (.tuple #[.string ⟨(Pl.cutAt 46 s.data.toList).1.toArray⟩, .string ⟨(Pl.cutAt 46 s.data.toList).2.1.toArray⟩, .bool (Pl.cutAt 46 s.data.toList).2.2]) ∧ Below w.heap.size w w' := by
  go_enter Try.func22, Try.ntmps22
  go_wp2_with (go_at_call 24; refine (cut24 _ _ hs).mono ?_; rintro e w' ⟨rfl, hb⟩)
  go_ret3
  exact ⟨rfl, hb⟩

theorem trim1_le (l : List UInt8) : (Pl.trim1 45 l).length ≤ l.length := by
  cases l with
  | nil => exact Nat.le_refl _
  | cons a l =>
    simp only [Pl.trim1]
    split <;> simp

theorem cut_len (l : List UInt8) : (Pl.cutAt 46 l).1.length ≤ l.length ∧ (Pl.cutAt 46 l).2.1.length ≤ l.length := by
  induction l with
  | nil => exact ⟨Nat.le_refl _, Nat.le_refl _⟩
  | cons a l ih =>
    unfold Pl.cutAt
    split
    · simp
    · simp; omega

theorem isDigits_list (l : List UInt8) (w : World) (hs : l.length ≤ 9223372036854775807) :
    Calls Try.prog 20 #[.string ⟨l.toArray⟩] w fun e w' => e = .returned (.bool (Pl.digs l)) ∧ Below w.heap.size w w' := by
  have := isDigits_any ⟨l.toArray⟩ w (by show l.toArray.size ≤ _; simpa using hs)
  simpa using this

/-- isPlain, behind the cut: a point, and no digits behind it -/
theorem isPlain_core (s : ByteArray) (T A B : List UInt8) (b dA dB : Bool) (w : World)
    (hT : Hid (∀ w, Calls Try.prog 23 #[.string s, .string ⟨#[45]⟩] w fun e w' => e = .returned (.string ⟨T.toArray⟩) ∧ w' = w))
    (hC : Hid (∀ w, Calls Try.prog 22 #[.string ⟨T.toArray⟩, .string ⟨#[46]⟩] w fun e w' => e = .returned (.tuple #[.string ⟨A.toArray⟩, .string ⟨B.toArray⟩, .bool b]) ∧ Below w.heap.size w w'))
    (hA : Hid (∀ w, Calls Try.prog 20 #[.string ⟨A.toArray⟩] w fun e w' => e = .returned (.bool dA) ∧ Below w.heap.size w w'))
    (hB : Hid (∀ w, Calls Try.prog 20 #[.string ⟨B.toArray⟩] w fun e w' => e = .returned (.bool dB) ∧ Below w.heap.size w w')) :
    Calls Try.prog 21 #[.string s] w fun e w' => e = .returned (.bool (if b && !dB then false else dA)) ∧ Below w.heap.size w w' := by
  cases b
  · go_enter Try.func21, Try.ntmps21
    go_wp2_with (first
      | (go_at_call 23; refine (hT.out _).mono ?_; rintro e w' ⟨rfl, rfl⟩)
      | (go_at_call 22; refine (hC.out _).mono ?_; rintro e w1 ⟨rfl, hb1⟩)
      | (go_at_call 20; refine (hA.out _).mono ?_; rintro e w2 ⟨rfl, hb2⟩))
    go_ret
    exact ⟨rfl, hb1.trans (hb2.mono hb1.size)⟩
  · cases dB
    · go_enter Try.func21, Try.ntmps21
      go_wp2_with (first
        | (go_at_call 23; refine (hT.out _).mono ?_; rintro e w' ⟨rfl, rfl⟩)
        | (go_at_call 22; refine (hC.out _).mono ?_; rintro e w1 ⟨rfl, hb1⟩)
        | (go_at_call 20; refine (hB.out _).mono ?_; rintro e w2 ⟨rfl, hb2⟩))
      go_ret
      exact ⟨rfl, hb1.trans (hb2.mono hb1.size)⟩
    · go_enter Try.func21, Try.ntmps21
      go_wp2_with (first
        | (go_at_call 23; refine (hT.out _).mono ?_; rintro e w' ⟨rfl, rfl⟩)
        | (go_at_call 22; refine (hC.out _).mono ?_; rintro e w1 ⟨rfl, hb1⟩))
      refine (hB.out _).mono ?_; rintro e w2 ⟨rfl, hb2⟩
      go_wp2_with fail
      refine (hA.out _).mono ?_; rintro e w3 ⟨rfl, hb3⟩
      go_wp2
      go_ret
      exact ⟨rfl, (hb1.trans (hb2.mono hb1.size)).trans (hb3.mono (Nat.le_trans hb1.size hb2.size))⟩

theorem isPlain_any (s : ByteArray) (w : World) (hs : s.size ≤ 9223372036854775806) :
    Calls Try.prog 21 #[.string s] w fun e w' => e = .returned (.bool (Pl.plain s.data.toList)) ∧ Below w.heap.size w w' := by
  have h1 := trim1_le s.data.toList
  have hz : s.data.toList.length = s.size := by simp
  obtain ⟨hl1, hl2⟩ := cut_len (Pl.trim1 45 s.data.toList)
  refine isPlain_core s (Pl.trim1 45 s.data.toList) (Pl.cutAt 46 (Pl.trim1 45 s.data.toList)).1 (Pl.cutAt 46 (Pl.trim1 45 s.data.toList)).2.1 (Pl.cutAt 46 (Pl.trim1 45 s.data.toList)).2.2 _ _ w (fun w => trim_any s w) (fun w => ?_) (fun w => isDigits_list _ w (by omega)) (fun w => isDigits_list _ w (by omega))
  exact cut_any ⟨(Pl.trim1 45 s.data.toList).toArray⟩ w (by show (Pl.trim1 45 s.data.toList).toArray.size ≤ _; simp; omega)

theorem zzIsPlain_any (s : ByteArray) (w : World) (hs : s.size ≤ 9223372036854775806) :
    Calls Try.prog 15 #[.string s] w fun e w' => e = .returned (.bool (Pl.plain s.data.toList)) ∧ Below w.heap.size w w' := by
  go_enter Try.func15, Try.ntmps15
  go_wp2_with (go_at_call 21; refine (isPlain_any _ _ hs).mono ?_; rintro e w' ⟨rfl, hb⟩)
  go_ret
  exact ⟨rfl, hb⟩

end Go.Proofs.Qxb6605437a
