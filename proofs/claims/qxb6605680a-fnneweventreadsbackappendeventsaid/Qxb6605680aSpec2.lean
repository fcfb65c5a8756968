/-
  Seat b6605680a: MORE PLAIN WORDS: a line by its places, as the model's loops find them.
-/
import Derived.Test.Qxb6605680aSpec
namespace Go.Proofs.Qxb6605680a.Sp

/-- how many bytes stand ahead of the first LF -/
def brk : List UInt8 → Nat
  | [] => 0
  | b :: l => if b == 10 then 0 else brk l + 1

theorem brk_le (l : List UInt8) : brk l ≤ l.length := by
  induction l with
  | nil => exact Nat.le_refl _
  | cons b l ih => simp only [brk]; split <;> simp <;> omega
theorem brk_ne (l : List UInt8) : ∀ x, x < brk l → l[x]? ≠ some 10 := by
  induction l with
  | nil => intro x hx; simp [brk] at hx
  | cons b l ih =>
    intro x hx
    simp only [brk] at hx
    split at hx
    · omega
    · rename_i hb
      cases x with
      | zero => simpa using hb
      | succ x => simpa using ih x (by omega)
theorem brk_at (l : List UInt8) (h : brk l < l.length) : l[brk l]? = some 10 := by
  induction l with
  | nil => simp at h
  | cons b l ih =>
    simp only [brk] at h ⊢
    by_cases hb : (b == 10) = true
    · rw [if_pos hb]; simpa using hb
    · rw [if_neg hb] at h ⊢
      simpa using ih (by simpa using h)
theorem lineLen_brk (l : List UInt8) : lineLen l = if brk l < l.length then brk l + 1 else brk l :=
  lineLen_at l (brk l) (brk_le l) (brk_ne l) (brk_at l)

theorem colon_ne (l : List UInt8) : ∀ x, x < colon l → l[x]? ≠ some 58 := by
  induction l with
  | nil => intro x hx; simp [colon] at hx
  | cons b l ih =>
    intro x hx
    simp only [colon] at hx
    split at hx
    · omega
    · rename_i hb
      cases x with
      | zero => simpa using hb
      | succ x => simpa using ih x (by omega)
theorem colon_is (l : List UInt8) (h : colon l < l.length) : l[colon l]? = some 58 := by
  induction l with
  | nil => simp at h
  | cons b l ih =>
    simp only [colon] at h ⊢
    by_cases hb : (b == 58) = true
    · rw [if_pos hb]; simpa using hb
    · rw [if_neg hb] at h ⊢
      simpa using ih (by simpa using h)

theorem chop_line (l : List UInt8) (_h : 0 < l.length) : (l.take (lineLen l)).take (chop 10 (l.take (lineLen l))) = l.take (brk l) := by
  have hb := brk_le l
  rw [lineLen_brk]
  by_cases hlt : brk l < l.length
  · rw [if_pos hlt]
    have hlast : (l.take (brk l + 1)).getLast? = some 10 := by
      rw [List.getLast?_eq_getElem?, List.length_take, Nat.min_eq_left (by omega), List.getElem?_take, if_pos (by omega), Nat.add_sub_cancel]
      exact brk_at l hlt
    unfold chop
    rw [if_pos hlast, List.length_take, Nat.min_eq_left (by omega), Nat.add_sub_cancel, List.take_take, Nat.min_eq_left (by omega)]
  · rw [if_neg hlt]
    have hlast : (l.take (brk l)).getLast? ≠ some 10 := by
      rw [List.getLast?_eq_getElem?, List.length_take, Nat.min_eq_left hb, List.getElem?_take]
      split
      · exact brk_ne l _ (by omega)
      · simp
    unfold chop
    rw [if_neg hlast, List.take_take, List.length_take]
    congr 1
    omega

/-- a line without its end, by its places -/
theorem textAt_eq (ev : List UInt8) (p : Nat) (hp : p < ev.length) :
    textAt ev p = (ev.drop p).take (chop 13 ((ev.drop p).take (brk (ev.drop p)))) := by
  unfold textAt trimLen lineAt
  rw [chop_line (ev.drop p) (by simp; omega)]
  have h1 := chop_le 13 ((ev.drop p).take (brk (ev.drop p)))
  rw [List.length_take] at h1
  have h2 : brk (ev.drop p) ≤ lineLen (ev.drop p) := by rw [lineLen_brk]; split <;> omega
  rw [List.take_take, Nat.min_eq_left (by omega)]

theorem textAt_len (ev : List UInt8) (p : Nat) (hp : p < ev.length) :
    (textAt ev p).length = if 0 < brk (ev.drop p) ∧ bt ev (p + brk (ev.drop p) - 1) = 13 then brk (ev.drop p) - 1 else brk (ev.drop p) := by
  have hb := brk_le (ev.drop p)
  rw [List.length_drop] at hb
  rw [textAt_eq ev p hp, List.length_take, List.length_drop]
  have hl : ((ev.drop p).take (brk (ev.drop p))).length = brk (ev.drop p) := by rw [List.length_take, List.length_drop]; omega
  unfold chop
  rw [hl]
  have hiff : (((ev.drop p).take (brk (ev.drop p))).getLast? = some 13) ↔ (0 < brk (ev.drop p) ∧ bt ev (p + brk (ev.drop p) - 1) = 13) := by
    by_cases h0 : 0 < brk (ev.drop p)
    · have e := bt_iff ev (p + brk (ev.drop p) - 1) (by omega) 13
      rw [List.getLast?_eq_getElem?, hl, List.getElem?_take, if_pos (by omega), List.getElem?_drop, show p + (brk (ev.drop p) - 1) = p + brk (ev.drop p) - 1 by omega, ← e]
      simp [h0]
    · have : brk (ev.drop p) = 0 := by omega
      simp [this]
  simp only [hiff]
  split <;> omega

theorem textAt_bt (ev : List UInt8) (p x : Nat) (hp : p < ev.length) (hx : x < (textAt ev p).length) : bt (textAt ev p) x = bt ev (p + x) := by
  have hl := hx
  rw [textAt_eq ev p hp] at hx ⊢
  rw [List.length_take, List.length_drop] at hx
  unfold bt
  rw [List.getElem?_take, if_pos (by omega), List.getElem?_drop]

theorem take4 (T : List UInt8) (h : 4 ≤ T.length) : (T.take 4 = [100, 97, 116, 97]) ↔ (bt T 0 = 100 ∧ bt T 1 = 97 ∧ bt T 2 = 116 ∧ bt T 3 = 97) := by
  match T, h with
  | a :: b :: c :: d :: l, _ =>
    simp only [List.take_succ_cons, List.take_zero, List.cons.injEq, and_true, bt, List.getElem?_cons_zero, List.getElem?_cons_succ, Option.getD_some]
    rw [← UInt8.toNat_inj, ← UInt8.toNat_inj, ← UInt8.toNat_inj, ← UInt8.toNat_inj]
    constructor
    · rintro ⟨h1, h2, h3, h4⟩
      simp only [h1, h2, h3, h4]
      decide
    · rintro ⟨h1, h2, h3, h4⟩
      refine ⟨?_, ?_, ?_, ?_⟩ <;> simp <;> omega

theorem isData_iff (T : List UInt8) : isData T = true ↔ (colon T = 4 ∧ bt T 0 = 100 ∧ bt T 1 = 97 ∧ bt T 2 = 116 ∧ bt T 3 = 97) := by
  constructor
  · intro h
    have h4 := isData_len T h
    refine ⟨h4.2, (take4 T h4.1).1 ?_⟩
    unfold isData at h
    rw [h4.2] at h
    exact beq_iff_eq.1 h
  · rintro ⟨h1, h2⟩
    have := colon_le T
    unfold isData
    rw [h1, (take4 T (by omega)).2 h2]
    rfl

theorem valAt_col (T : List UInt8) (h : colon T < T.length) : valAt T = if colon T + 1 < T.length ∧ bt T (colon T + 1) = 32 then colon T + 2 else colon T + 1 := by
  unfold valAt
  rw [if_pos h]
  by_cases h2 : colon T + 1 < T.length
  · have := bt_iff T (colon T + 1) h2 32
    simp only [← this, h2, true_and]
    rfl
  · rw [if_neg (fun e => h2 (List.getElem?_eq_some_iff.1 e).1), if_neg (fun e => h2 e.1)]
theorem valAt_nocol (T : List UInt8) (h : ¬ colon T < T.length) : valAt T = T.length := by
  unfold valAt; rw [if_neg h]

end Go.Proofs.Qxb6605680a.Sp
