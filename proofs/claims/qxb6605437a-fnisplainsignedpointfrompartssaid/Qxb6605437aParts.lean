/-
  Seat b6605437a: THE WALK OF zzBytes_FnIsPlainSignedPointFromParts (17) and of the law FnIsPlainSignedPointFromParts (8).
-/
import Derived.Test.Qxb6605437aIsPlain
namespace Go.Proofs.Qxb6605437a
open Go.RowKit

theorem zz17_any (a b : ByteArray) (w : World) (ha : a.size ≤ maxLen) (hb : b.size ≤ maxLen) :
    Calls Try.prog 17 #[.string a, .string b] w fun e w' => e = .returned (.bool (decide ((a.size : Int) + b.size ≤ 1048576))) ∧ w' = w := by
  unfold maxLen at ha hb
  by_cases h1 : (a.size : Int) ≤ 1048576
  · by_cases h2 : (b.size : Int) ≤ 1048576
    · by_cases h3 : (a.size : Int) + b.size ≤ 1048576
      · have hd : decide ((a.size : Int) + b.size ≤ 1048576) = true := by simpa using h3
        rw [hd]
        go_enter Try.func17, Try.ntmps17
        go_wp2
        go_ret
        exact ⟨rfl, rfl⟩
      · have hd : decide ((a.size : Int) + b.size ≤ 1048576) = false := by simpa using h3
        rw [hd]
        go_enter Try.func17, Try.ntmps17
        go_wp2
        go_ret
        exact ⟨rfl, rfl⟩
    · have hd : decide ((a.size : Int) + b.size ≤ 1048576) = false := by simp; omega
      rw [hd]
      go_enter Try.func17, Try.ntmps17
      go_wp2
      go_ret
      exact ⟨rfl, rfl⟩
  · have hd : decide ((a.size : Int) + b.size ≤ 1048576) = false := by simp; omega
    rw [hd]
    go_enter Try.func17, Try.ntmps17
    go_wp2
    go_ret
    exact ⟨rfl, rfl⟩

theorem law_far (a b : ByteArray) (w : World) (ha : a.size ≤ maxLen) (hb : b.size ≤ maxLen) (h : 1048576 < (a.size : Int) + b.size) :
    Calls Try.prog 8 #[.string a, .string b] w fun e w' => e = .returned (.bool true) ∧ w' = w := by
  have hz : ∀ w, Calls Try.prog 17 #[.string a, .string b] w fun e w' => e = .returned (.bool false) ∧ w' = w := fun w => by
    have := zz17_any a b w ha hb
    rwa [show decide ((a.size : Int) + b.size ≤ 1048576) = false by simp; omega] at this
  have HZ : Hid (∀ w, Calls Try.prog 17 #[.string a, .string b] w fun e w' => e = .returned (.bool false) ∧ w' = w) := hz
  clear hz
  go_enter Try.func8, Try.ntmps8
  go_wp2_with (go_at_call 17; refine (HZ.out _).mono ?_; rintro e w' ⟨rfl, rfl⟩)
  go_ret
  exact ⟨rfl, rfl⟩

theorem law_long (a b : ByteArray) (w : World) (HZ : Hid (∀ w, Calls Try.prog 17 #[.string a, .string b] w fun e w' => e = .returned (.bool true) ∧ w' = w)) (h : 524288 < (a.size : Int) ∨ 524288 < (b.size : Int)) :
    Calls Try.prog 8 #[.string a, .string b] w fun e w' => e = .returned (.bool true) ∧ w' = w := by
  by_cases h1 : 524288 < (a.size : Int)
  · clear h
    go_enter Try.func8, Try.ntmps8
    go_wp2_with (go_at_call 17; refine (HZ.out _).mono ?_; rintro e w' ⟨rfl, rfl⟩)
    go_ret
    exact ⟨rfl, rfl⟩
  · have h2 : 524288 < (b.size : Int) := by omega
    clear h
    go_enter Try.func8, Try.ntmps8
    go_wp2_with (go_at_call 17; refine (HZ.out _).mono ?_; rintro e w' ⟨rfl, rfl⟩)
    go_ret
    exact ⟨rfl, rfl⟩

theorem text1 (a b : ByteArray) : (((⟨#[45]⟩ : ByteArray) ++ a) ++ ⟨#[46]⟩ ++ b).data.toList = 45 :: (a.data.toList ++ 46 :: b.data.toList) := by
  simp [ByteArray.data_append]
theorem text2 (a b : ByteArray) : (a ++ (⟨#[46]⟩ : ByteArray) ++ b).data.toList = a.data.toList ++ 46 :: b.data.toList := by
  simp [ByteArray.data_append]
theorem size1 (a b : ByteArray) (h1 : (a.size : Int) ≤ 524288) (h2 : (b.size : Int) ≤ 524288) : (((⟨#[45]⟩ : ByteArray) ++ a) ++ ⟨#[46]⟩ ++ b).size ≤ 9223372036854775806 := by
  simp only [ByteArray.size_append]
  have e1 : (⟨#[45]⟩ : ByteArray).size = 1 := rfl
  have e2 : (⟨#[46]⟩ : ByteArray).size = 1 := rfl
  omega
theorem size2 (a b : ByteArray) (h1 : (a.size : Int) ≤ 524288) (h2 : (b.size : Int) ≤ 524288) : (a ++ (⟨#[46]⟩ : ByteArray) ++ b).size ≤ 9223372036854775806 := by
  simp only [ByteArray.size_append]
  have e2 : (⟨#[46]⟩ : ByteArray).size = 1 := rfl
  omega

/-- the first part of the law: "-"+a+"."+b -/
theorem plain1 (a b : ByteArray) (w : World) (h1 : (a.size : Int) ≤ 524288) (h2 : (b.size : Int) ≤ 524288) :
    Calls Try.prog 15 #[.string (((⟨#[45]⟩ : ByteArray) ++ a) ++ ⟨#[46]⟩ ++ b)] w fun e w' => e = .returned (.bool (Pl.digs a.data.toList && Pl.digs b.data.toList)) ∧ Below w.heap.size w w' := by
  have := zzIsPlain_any _ w (size1 a b h1 h2)
  rwa [text1, Pl.plain_signed] at this
/-- the second: a+"."+b -/
theorem plain2 (a b : ByteArray) (w : World) (h1 : (a.size : Int) ≤ 524288) (h2 : (b.size : Int) ≤ 524288) (hn : ∀ c l, a.data.toList = c :: l → c ≠ 45) :
    Calls Try.prog 15 #[.string (a ++ (⟨#[46]⟩ : ByteArray) ++ b)] w fun e w' => e = .returned (.bool (Pl.digs a.data.toList && Pl.digs b.data.toList)) ∧ Below w.heap.size w w' := by
  have := zzIsPlain_any _ w (size2 a b h1 h2)
  rwa [text2, Pl.plain_bare _ _ hn] at this

set_option maxHeartbeats 1000000 in
/-- a is empty -/
theorem near_empty (a b : ByteArray) (w : World) (da db : Bool) (h1 : (a.size : Int) ≤ 524288) (h2 : (b.size : Int) ≤ 524288)
    (HZ : Hid (∀ w, Calls Try.prog 17 #[.string a, .string b] w fun e w' => e = .returned (.bool true) ∧ w' = w))
    (HA : Hid (∀ w, Calls Try.prog 18 #[.string a] w fun e w' => e = .returned (.bool da) ∧ w' = w))
    (HB : Hid (∀ w, Calls Try.prog 18 #[.string b] w fun e w' => e = .returned (.bool db) ∧ w' = w))
    (H1 : Hid (∀ w, Calls Try.prog 15 #[.string (((⟨#[45]⟩ : ByteArray) ++ a) ++ ⟨#[46]⟩ ++ b)] w fun e w' => e = .returned (.bool (da && db)) ∧ Below w.heap.size w w'))
    (H2 : Hid (∀ w, Calls Try.prog 15 #[.string (a ++ (⟨#[46]⟩ : ByteArray) ++ b)] w fun e w' => e = .returned (.bool (da && db)) ∧ Below w.heap.size w w'))
    (hne : a.toList.isEmpty = true) :
    Calls Try.prog 8 #[.string a, .string b] w fun e w' => e = .returned (.bool true) ∧ Below w.heap.size w w' := by
  cases da
  · go_enter Try.func8, Try.ntmps8
    go_wp2_with (first
      | (go_at_call 17; refine (HZ.out _).mono ?_; rintro e w' ⟨rfl, rfl⟩)
      | (go_at_call 18; refine (HA.out _).mono ?_; rintro e w' ⟨rfl, rfl⟩))
    refine (H1.out _).mono ?_; rintro e w1 ⟨rfl, hb1⟩
    go_wp2_with fail
    refine (H2.out _).mono ?_; rintro e w2 ⟨rfl, hb2⟩
    go_wp2
    go_ret
    exact ⟨rfl, hb1.trans (hb2.mono hb1.size)⟩
  · go_enter Try.func8, Try.ntmps8
    go_wp2_with (go_at_call 17; refine (HZ.out _).mono ?_; rintro e w' ⟨rfl, rfl⟩)
    refine (HA.out _).mono ?_; rintro e w' ⟨rfl, rfl⟩
    go_wp2_with fail
    refine (HB.out _).mono ?_; rintro e w' ⟨rfl, rfl⟩
    cases db
    · go_wp2_with fail
      refine (H1.out _).mono ?_; rintro e w1 ⟨rfl, hb1⟩
      go_wp2_with fail
      refine (H2.out _).mono ?_; rintro e w2 ⟨rfl, hb2⟩
      go_wp2
      go_ret
      exact ⟨rfl, hb1.trans (hb2.mono hb1.size)⟩
    · go_wp2_with fail
      refine (H1.out _).mono ?_; rintro e w1 ⟨rfl, hb1⟩
      go_wp2_with fail
      refine (H2.out _).mono ?_; rintro e w2 ⟨rfl, hb2⟩
      go_wp2
      go_ret
      exact ⟨rfl, hb1.trans (hb2.mono hb1.size)⟩

set_option maxHeartbeats 1000000 in
/-- a is not empty and does not begin with '-' -/
theorem near_bare (a b : ByteArray) (w : World) (da db : Bool) (h1 : (a.size : Int) ≤ 524288) (h2 : (b.size : Int) ≤ 524288)
    (HZ : Hid (∀ w, Calls Try.prog 17 #[.string a, .string b] w fun e w' => e = .returned (.bool true) ∧ w' = w))
    (HA : Hid (∀ w, Calls Try.prog 18 #[.string a] w fun e w' => e = .returned (.bool da) ∧ w' = w))
    (HB : Hid (∀ w, Calls Try.prog 18 #[.string b] w fun e w' => e = .returned (.bool db) ∧ w' = w))
    (H1 : Hid (∀ w, Calls Try.prog 15 #[.string (((⟨#[45]⟩ : ByteArray) ++ a) ++ ⟨#[46]⟩ ++ b)] w fun e w' => e = .returned (.bool (da && db)) ∧ Below w.heap.size w w'))
    (H2 : Hid (∀ w, Calls Try.prog 15 #[.string (a ++ (⟨#[46]⟩ : ByteArray) ++ b)] w fun e w' => e = .returned (.bool (da && db)) ∧ Below w.heap.size w w'))
    (hne : a.toList.isEmpty = false) (h0 : 0 < a.size) (h45 : ((a[0].toNat : Int) != 45) = true) :
    Calls Try.prog 8 #[.string a, .string b] w fun e w' => e = .returned (.bool true) ∧ Below w.heap.size w w' := by
  cases da
  · go_enter Try.func8, Try.ntmps8
    go_wp2_with (first
      | (go_at_call 17; refine (HZ.out _).mono ?_; rintro e w' ⟨rfl, rfl⟩)
      | (go_at_call 18; refine (HA.out _).mono ?_; rintro e w' ⟨rfl, rfl⟩))
    refine (H1.out _).mono ?_; rintro e w1 ⟨rfl, hb1⟩
    go_wp2_with fail
    refine (H2.out _).mono ?_; rintro e w2 ⟨rfl, hb2⟩
    go_wp2
    go_ret
    exact ⟨rfl, hb1.trans (hb2.mono hb1.size)⟩
  · go_enter Try.func8, Try.ntmps8
    go_wp2_with (go_at_call 17; refine (HZ.out _).mono ?_; rintro e w' ⟨rfl, rfl⟩)
    refine (HA.out _).mono ?_; rintro e w' ⟨rfl, rfl⟩
    go_wp2_with fail
    refine (HB.out _).mono ?_; rintro e w' ⟨rfl, rfl⟩
    cases db
    · go_wp2_with fail
      refine (H1.out _).mono ?_; rintro e w1 ⟨rfl, hb1⟩
      go_wp2_with fail
      refine (H2.out _).mono ?_; rintro e w2 ⟨rfl, hb2⟩
      go_wp2
      go_ret
      exact ⟨rfl, hb1.trans (hb2.mono hb1.size)⟩
    · go_wp2_with fail
      refine (H1.out _).mono ?_; rintro e w1 ⟨rfl, hb1⟩
      go_wp2_with fail
      refine (H2.out _).mono ?_; rintro e w2 ⟨rfl, hb2⟩
      go_wp2
      go_ret
      exact ⟨rfl, hb1.trans (hb2.mono hb1.size)⟩

set_option maxHeartbeats 1000000 in
/-- a begins with '-' -/
theorem near_sign (a b : ByteArray) (w : World) (da db : Bool) (h1 : (a.size : Int) ≤ 524288) (h2 : (b.size : Int) ≤ 524288)
    (HZ : Hid (∀ w, Calls Try.prog 17 #[.string a, .string b] w fun e w' => e = .returned (.bool true) ∧ w' = w))
    (HA : Hid (∀ w, Calls Try.prog 18 #[.string a] w fun e w' => e = .returned (.bool da) ∧ w' = w))
    (HB : Hid (∀ w, Calls Try.prog 18 #[.string b] w fun e w' => e = .returned (.bool db) ∧ w' = w))
    (H1 : Hid (∀ w, Calls Try.prog 15 #[.string (((⟨#[45]⟩ : ByteArray) ++ a) ++ ⟨#[46]⟩ ++ b)] w fun e w' => e = .returned (.bool (da && db)) ∧ Below w.heap.size w w'))
    (hne : a.toList.isEmpty = false) (h0 : 0 < a.size) (h45 : ((a[0].toNat : Int) != 45) = false) :
    Calls Try.prog 8 #[.string a, .string b] w fun e w' => e = .returned (.bool true) ∧ Below w.heap.size w w' := by
  cases da
  · go_enter Try.func8, Try.ntmps8
    go_wp2_with (first
      | (go_at_call 17; refine (HZ.out _).mono ?_; rintro e w' ⟨rfl, rfl⟩)
      | (go_at_call 18; refine (HA.out _).mono ?_; rintro e w' ⟨rfl, rfl⟩))
    refine (H1.out _).mono ?_; rintro e w1 ⟨rfl, hb1⟩
    go_wp2
    go_ret
    exact ⟨rfl, hb1⟩
  · go_enter Try.func8, Try.ntmps8
    go_wp2_with (go_at_call 17; refine (HZ.out _).mono ?_; rintro e w' ⟨rfl, rfl⟩)
    refine (HA.out _).mono ?_; rintro e w' ⟨rfl, rfl⟩
    go_wp2_with fail
    refine (HB.out _).mono ?_; rintro e w' ⟨rfl, rfl⟩
    cases db
    · go_wp2_with fail
      refine (H1.out _).mono ?_; rintro e w1 ⟨rfl, hb1⟩
      go_wp2
      go_ret
      exact ⟨rfl, hb1⟩
    · go_wp2_with fail
      refine (H1.out _).mono ?_; rintro e w1 ⟨rfl, hb1⟩
      go_wp2
      go_ret
      exact ⟨rfl, hb1⟩

theorem law8 (a b : ByteArray) (w : World) (ha : a.size ≤ maxLen) (hb : b.size ≤ maxLen) :
    Calls Try.prog 8 #[.string a, .string b] w fun e w' => e = .returned (.bool true) ∧ Below w.heap.size w w' := by
  by_cases h : 1048576 < (a.size : Int) + b.size
  · refine (law_far a b w ha hb h).mono ?_
    rintro e w' ⟨rfl, rfl⟩
    exact ⟨rfl, Below.refl _ _⟩
  · have HZ : Hid (∀ w, Calls Try.prog 17 #[.string a, .string b] w fun e w' => e = .returned (.bool true) ∧ w' = w) := fun w => by
      have := zz17_any a b w ha hb
      rwa [show decide ((a.size : Int) + b.size ≤ 1048576) = true by simp; omega] at this
    by_cases hl : 524288 < (a.size : Int) ∨ 524288 < (b.size : Int)
    · refine (law_long a b w HZ hl).mono ?_
      rintro e w' ⟨rfl, rfl⟩
      exact ⟨rfl, Below.refl _ _⟩
    · have h1 : (a.size : Int) ≤ 524288 := by omega
      have h2 : (b.size : Int) ≤ 524288 := by omega
      cases hd : a.data.toList with
      | nil =>
        exact near_empty a b w _ _ h1 h2 HZ (fun w => all_any a w ha) (fun w => all_any b w hb) (fun w => plain1 a b w h1 h2)
          (fun w => plain2 a b w h1 h2 (fun c l e => by rw [hd] at e; cases e)) (by rw [Lib.toList_data, hd]; rfl)
      | cons c l =>
        have hz : a.size = l.length + 1 := by
          have : a.data.toList.length = a.size := by simp
          rw [← this, hd]; rfl
        have h0 : 0 < a.size := by omega
        have hne : a.toList.isEmpty = false := by rw [Lib.toList_data, hd]; rfl
        have hc0 : a[0] = c := by
          have e : a.data.toList[0]? = some a[0] := by
            rw [List.getElem?_eq_getElem (by simpa using h0)]; rfl
          rw [hd] at e
          simpa using e.symm
        by_cases h45 : c = 45
        · exact near_sign a b w _ _ h1 h2 HZ (fun w => all_any a w ha) (fun w => all_any b w hb) (fun w => plain1 a b w h1 h2) hne h0 (by rw [hc0, h45]; rfl)
        · exact near_bare a b w _ _ h1 h2 HZ (fun w => all_any a w ha) (fun w => all_any b w hb) (fun w => plain1 a b w h1 h2)
            (fun w => plain2 a b w h1 h2 (fun c' l' e => by rw [hd] at e; injection e with e1 e2; rw [← e1]; exact h45)) hne h0 (by
              rw [hc0, bne_iff_ne]
              intro e
              exact h45 (UInt8.toNat_inj.1 (by show c.toNat = 45; omega)))

end Go.Proofs.Qxb6605437a
