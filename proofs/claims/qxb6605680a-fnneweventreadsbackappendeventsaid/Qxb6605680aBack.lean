/-
  Seat b6605680a: THE PLAIN LAW OF THE READING BACK: what the data fields of an appended event come to.
-/
import Derived.Test.Qxb6605680aSpec2
namespace Go.Proofs.Qxb6605680a.Sp

theorem brk_app (a b : List UInt8) (h : ∀ x ∈ a, x ≠ 10) : brk (a ++ 10 :: b) = a.length := by
  induction a with
  | nil => simp [brk]
  | cons c l ih =>
    have hc := h c (by simp)
    simp only [List.cons_append, brk]
    rw [if_neg (by simpa using hc), ih (fun x hx => h x (by simp [hx]))]
    rfl

theorem line_app (p a b : List UInt8) (h : ∀ x ∈ a, x ≠ 10) : lineLen ((p ++ (a ++ 10 :: b)).drop p.length) = a.length + 1 ∧ textAt (p ++ (a ++ 10 :: b)) p.length = a.take (chop 13 a) := by
  have hd : (p ++ (a ++ 10 :: b)).drop p.length = a ++ 10 :: b := by simp
  have hb := brk_app a b h
  constructor
  · rw [hd, lineLen_brk, hb, if_pos (by simp)]
  · rw [textAt_eq _ _ (by simp; omega), hd, hb]
    have : (a ++ 10 :: b).take a.length = a := by simp
    rw [this, List.take_append_of_le_length (chop_le 13 a)]

theorem chop_not (a : List UInt8) (h : a.getLast? ≠ some 13) : a.take (chop 13 a) = a := by
  unfold chop; rw [if_neg h]; exact List.take_length

/-- the line of the event's type -/
theorem type_not (et : List UInt8) : isData (([101, 118, 101, 110, 116, 58, 32] ++ et).take (chop 13 ([101, 118, 101, 110, 116, 58, 32] ++ et))) = false := by
  generalize hT : ([101, 118, 101, 110, 116, 58, 32] ++ et).take (chop 13 ([101, 118, 101, 110, 116, 58, 32] ++ et)) = T
  have hl : 6 ≤ T.length := by
    rw [← hT, List.length_take]
    have h6 : 6 ≤ chop 13 ([101, 118, 101, 110, 116, 58, 32] ++ et) := by
      unfold chop; split <;> simp <;> omega
    have h7 : 6 ≤ ([101, 118, 101, 110, 116, 58, 32] ++ et).length := by simp
    omega
  have h0 : bt T 0 = 101 := by
    unfold bt
    rw [← hT, List.getElem?_take, if_pos (by rw [← hT, List.length_take] at hl; omega)]
    rfl
  rw [Bool.eq_false_iff]
  intro h
  have := ((isData_iff T).1 h).2.1
  omega

/-- the data's line -/
theorem data_line (d : List UInt8) (h : d.getLast? ≠ some 13) : ([100, 97, 116, 97, 58, 32] ++ d).take (chop 13 ([100, 97, 116, 97, 58, 32] ++ d)) = [100, 97, 116, 97, 58, 32] ++ d := by
  refine chop_not _ ?_
  rw [List.getLast?_append]
  cases hd : d.getLast? with
  | none => simp
  | some x => rw [hd] at h; simpa using h

theorem data_step (p : Nat) (d : List UInt8) (a : Acc) (h0 : a.fields = 0) (hj : a.joined = []) : stepL ([100, 97, 116, 97, 58, 32] ++ d) p a = ⟨1, p + 6, p + (6 + d.length), true, d⟩ := by
  have hc : colon ([100, 97, 116, 97, 58, 32] ++ d) = 4 := by simp [colon]
  have hv : valAt ([100, 97, 116, 97, 58, 32] ++ d) = 6 := by
    unfold valAt; rw [hc]; simp
  have hd : isData ([100, 97, 116, 97, 58, 32] ++ d) = true := by
    unfold isData; rw [hc]; rfl
  unfold stepL
  rw [if_pos hd, if_pos h0, hv]
  have hh : hasCol ([100, 97, 116, 97, 58, 32] ++ d) = true := by unfold hasCol; rw [hc]; simp
  have hvo : valOf ([100, 97, 116, 97, 58, 32] ++ d) = d := by unfold valOf; rw [hv]; rfl
  rw [hh, hvo, hj]
  have hl : ([100, 97, 116, 97, 58, 32] ++ d).length = 6 + d.length := by simp; omega
  rw [hl]; rfl

theorem empty_step (p : Nat) (a : Acc) : stepL [] p a = a := rfl

/-- the data's line and the blank one, behind q -/
theorem fin_data (q d : List UInt8) (hn : ∀ x ∈ d, x ≠ 10) (hl : d.getLast? ≠ some 13) (h : At (q ++ (([100, 97, 116, 97, 58, 32] ++ d) ++ 10 :: [10])) q.length acc0) :
    Fin (q ++ (([100, 97, 116, 97, 58, 32] ++ d) ++ 10 :: [10])) ⟨1, q.length + 6, q.length + (6 + d.length), true, d⟩ := by
  have hno : ∀ x ∈ [100, 97, 116, 97, 58, 32] ++ d, x ≠ 10 := by
    intro x hx
    rcases List.mem_append.1 hx with h1 | h1
    · revert h1; simp; rintro (rfl | rfl | rfl | rfl | rfl | rfl) <;> decide
    · exact hn x h1
  obtain ⟨e1, e2⟩ := line_app q ([100, 97, 116, 97, 58, 32] ++ d) [10] hno
  have s1 := at_step h (by simp)
  rw [e1, e2, data_line d hl, data_step _ d acc0 rfl rfl] at s1
  generalize hev : q ++ (([100, 97, 116, 97, 58, 32] ++ d) ++ 10 :: [10]) = ev at *
  have hev2 : ev = (q ++ ([100, 97, 116, 97, 58, 32] ++ d) ++ [10]) ++ ([] ++ 10 :: []) := by rw [← hev]; simp
  obtain ⟨f1, f2⟩ := line_app (q ++ ([100, 97, 116, 97, 58, 32] ++ d) ++ [10]) [] [] (fun x hx => by simp at hx)
  have hp : (q ++ ([100, 97, 116, 97, 58, 32] ++ d) ++ [10]).length = q.length + (([100, 97, 116, 97, 58, 32] ++ d).length + 1) := by simp
  rw [hp, ← hev2] at f1 f2
  have s2 := at_step s1 (by rw [hev2]; simp)
  rw [f1, f2] at s2
  have hlen : q.length + (([100, 97, 116, 97, 58, 32] ++ d).length + 1) + (([] : List UInt8).length + 1) = ev.length := by rw [hev2]; simp; omega
  rw [hlen] at s2
  exact s2

/-- THE LAW: with the event's type -/
theorem fin_typed (et d : List UInt8) (ht : ∀ x ∈ et, x ≠ 10) (hn : ∀ x ∈ d, x ≠ 10) (hl : d.getLast? ≠ some 13) :
    Fin (([101, 118, 101, 110, 116, 58, 32] ++ et ++ [10]) ++ (([100, 97, 116, 97, 58, 32] ++ d) ++ 10 :: [10])) ⟨1, ([101, 118, 101, 110, 116, 58, 32] ++ et ++ [10]).length + 6, ([101, 118, 101, 110, 116, 58, 32] ++ et ++ [10]).length + (6 + d.length), true, d⟩ := by
  refine fin_data _ d hn hl ?_
  have hno : ∀ x ∈ [101, 118, 101, 110, 116, 58, 32] ++ et, x ≠ 10 := by
    intro x hx
    rcases List.mem_append.1 hx with h1 | h1
    · revert h1; simp; rintro (rfl | rfl | rfl | rfl | rfl | rfl | rfl) <;> decide
    · exact ht x h1
  have hev : ([101, 118, 101, 110, 116, 58, 32] ++ et ++ [10]) ++ (([100, 97, 116, 97, 58, 32] ++ d) ++ 10 :: [10]) = [] ++ (([101, 118, 101, 110, 116, 58, 32] ++ et) ++ 10 :: (([100, 97, 116, 97, 58, 32] ++ d) ++ 10 :: [10])) := by simp
  obtain ⟨e1, e2⟩ := line_app [] ([101, 118, 101, 110, 116, 58, 32] ++ et) (([100, 97, 116, 97, 58, 32] ++ d) ++ 10 :: [10]) hno
  rw [hev]
  have s1 := at_step (at0 ([] ++ (([101, 118, 101, 110, 116, 58, 32] ++ et) ++ 10 :: (([100, 97, 116, 97, 58, 32] ++ d) ++ 10 :: [10])))) (by simp)
  simp only [List.length_nil] at e1 e2
  rw [e1, e2] at s1
  have hst : ∀ T p, isData T = false → stepL T p acc0 = acc0 := by
    intro T p h; unfold stepL; rw [if_neg (by rw [h]; simp)]
  rw [hst _ _ (type_not et)] at s1
  have hp : ([101, 118, 101, 110, 116, 58, 32] ++ et ++ [10]).length = 0 + (([101, 118, 101, 110, 116, 58, 32] ++ et).length + 1) := by simp
  rw [hp]; exact s1

/-- .. without -/
theorem fin_bare (d : List UInt8) (hn : ∀ x ∈ d, x ≠ 10) (hl : d.getLast? ≠ some 13) :
    Fin (([100, 97, 116, 97, 58, 32] ++ d) ++ 10 :: [10]) ⟨1, 6, 6 + d.length, true, d⟩ := by
  have := fin_data [] d hn hl (at0 _)
  simpa using this

end Go.Proofs.Qxb6605680a.Sp
