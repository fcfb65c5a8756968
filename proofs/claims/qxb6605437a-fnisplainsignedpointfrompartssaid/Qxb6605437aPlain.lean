/-
  Seat b6605437a: THE PLAIN LAWS (no Go in sight): what isPlain, isDigits, plainAutomaton and allDigitBytes compute, on lists of bytes, and that they agree as the two statements say.
-/
import Derived.Lib.Bytealg
namespace Go.Proofs.Qxb6605437a.Pl

/-- a decimal digit -/
def dig (c : UInt8) : Bool := decide (48 ≤ (c.toNat : Int) ∧ (c.toNat : Int) ≤ 57)

/-- isDigits: not empty, and each byte a digit -/
def digs (l : List UInt8) : Bool := !l.isEmpty && l.all dig

/-- strings.Cut at one byte -/
def cutAt (c : UInt8) : List UInt8 → List UInt8 × List UInt8 × Bool
  | [] => ([], [], false)
  | b :: l => if b == c then ([], l, true) else (b :: (cutAt c l).1, (cutAt c l).2.1, (cutAt c l).2.2)

/-- strings.TrimPrefix at one byte -/
def trim1 (c : UInt8) : List UInt8 → List UInt8
  | [] => []
  | b :: l => if b == c then l else b :: l

/-- what isPlain says of the three parts of a cut -/
def parts (r : List UInt8 × List UInt8 × Bool) : Bool := if r.2.2 && !digs r.2.1 then false else digs r.1

def plain (l : List UInt8) : Bool := parts (cutAt 46 (trim1 45 l))

/-- one round of the automaton: the next state, or none where it refuses -/
def step (st : Nat) (c : UInt8) : Option Nat :=
  if st = 0 then (if c == 45 then some 1 else if dig c then some 2 else none)
  else if st = 1 then (if dig c then some 2 else none)
  else if st = 2 then (if c == 46 then some 3 else if dig c then some 2 else none)
  else if st = 3 then (if dig c then some 4 else none)
  else (if dig c then some st else none)

def runA : Nat → List UInt8 → Bool
  | st, [] => st == 2 || st == 4
  | st, c :: l => match step st c with | some st' => runA st' l | none => false

theorem run4 (l : List UInt8) : runA 4 l = l.all dig := by
  induction l with
  | nil => rfl
  | cons c l ih =>
    by_cases h : dig c = true
    · simp [runA, step, h, ih]
    · simp [runA, step, h]

theorem run3 (l : List UInt8) : runA 3 l = digs l := by
  cases l with
  | nil => rfl
  | cons c l =>
    by_cases h : dig c = true
    · simp [runA, step, h, run4, digs]
    · simp [runA, step, h, digs]

theorem dig46 : dig 46 = false := by decide
theorem dig45 : dig 45 = false := by decide

theorem run2 (l : List UInt8) : runA 2 l = (if (cutAt 46 l).2.2 && !digs (cutAt 46 l).2.1 then false else (cutAt 46 l).1.all dig) := by
  induction l with
  | nil => rfl
  | cons c l ih =>
    by_cases h : c = 46
    · subst h
      simp [runA, step, cutAt, run3]
    · by_cases hd : dig c = true
      · simp [runA, step, cutAt, h, hd, ih]
      · simp [runA, step, cutAt, h, hd]

theorem parts_run (l : List UInt8) : parts (cutAt 46 l) = runA 1 l := by
  cases l with
  | nil => rfl
  | cons c l =>
    by_cases h : c = 46
    · subst h
      simp [runA, step, cutAt, parts, dig46, digs]
    · by_cases hd : dig c = true
      · simp [runA, step, cutAt, parts, h, hd, run2, digs]
      · simp [runA, step, cutAt, parts, h, hd, digs]

/-- THE FIRST LAW -/
theorem plain_auto (l : List UInt8) : plain l = runA 0 l := by
  unfold plain
  rw [parts_run]
  cases l with
  | nil => rfl
  | cons c l =>
    by_cases h : c = 45
    · subst h
      simp [trim1, runA, step]
    · simp [trim1, runA, step, h]

theorem cut_none (c : UInt8) (l : List UInt8) (h : Lib.indexByte l c = -1) : cutAt c l = (l, [], false) := by
  induction l with
  | nil => rfl
  | cons b l ih =>
    unfold Lib.indexByte at h
    by_cases hb : (b == c) = true
    · rw [if_pos hb] at h; omega
    · rw [if_neg hb] at h
      have hg := Lib.indexByte_ge l c
      by_cases hi : Lib.indexByte l c = -1
      · unfold cutAt; rw [if_neg hb, ih hi]
      · rw [if_neg (by simpa using hi)] at h; omega

theorem cut_some (c : UInt8) (l : List UInt8) (i : Nat) (h : Lib.indexByte l c = i) : cutAt c l = (l.take i, l.drop (i + 1), true) ∧ i < l.length := by
  induction l generalizing i with
  | nil => simp [Lib.indexByte] at h
  | cons b l ih =>
    unfold Lib.indexByte at h
    by_cases hb : (b == c) = true
    · rw [if_pos hb] at h
      obtain rfl : i = 0 := by omega
      unfold cutAt; rw [if_pos hb]; simp
    · rw [if_neg hb] at h
      have hg := Lib.indexByte_ge l c
      by_cases hi : Lib.indexByte l c = -1
      · rw [if_pos (by simpa using hi)] at h; omega
      · rw [if_neg (by simpa using hi)] at h
        obtain ⟨k, rfl⟩ : ∃ k, i = k + 1 := ⟨i - 1, by omega⟩
        obtain ⟨e, hk⟩ := ih k (by omega)
        unfold cutAt; rw [if_neg hb, e]; simp; omega

/-- a byte that is no digit among them -/
theorem digs_false (l r : List UInt8) (c : UInt8) (h : dig c = false) : digs (l ++ c :: r) = false := by
  simp [digs, h]

theorem parts_join (a b : List UInt8) : parts (cutAt 46 (a ++ 46 :: b)) = (digs a && digs b) := by
  cases hx : Lib.indexByte a 46 with
  | negSucc n =>
    have hg := Lib.indexByte_ge a 46
    have hm : Lib.indexByte a 46 = -1 := by omega
    have hc : cutAt 46 (a ++ 46 :: b) = (a, b, true) := by
      have hn := cut_none 46 a hm
      clear hx hg hm
      induction a with
      | nil => simp [cutAt]
      | cons x a ih =>
        by_cases hx : x = 46
        · subst hx; simp [cutAt] at hn
        · simp [cutAt, hx] at hn ⊢
          obtain ⟨h1, h2, h3⟩ := hn
          have := ih (by rw [← h1]; simp [h1, h2, h3, Prod.ext_iff])
          simp [this]
    rw [hc]
    simp only [parts]
    cases digs a <;> cases digs b <;> rfl
  | ofNat i =>
    obtain ⟨e, hi⟩ := cut_some 46 a i hx
    have hd : digs a = false := by
      have hs : a = a.take i ++ 46 :: a.drop (i + 1) := by
        clear e
        induction a generalizing i with
        | nil => simp at hi
        | cons x a ih =>
          unfold Lib.indexByte at hx
          by_cases hb : (x == 46) = true
          · rw [if_pos hb] at hx
            obtain rfl : i = 0 := by simp at hx; omega
            simp at hb; subst hb; simp
          · rw [if_neg hb] at hx
            have hg := Lib.indexByte_ge a 46
            by_cases hm : Lib.indexByte a 46 = -1
            · rw [if_pos (by simpa using hm)] at hx; simp at hx
            · rw [if_neg (by simpa using hm)] at hx
              simp at hx
              obtain ⟨k, rfl⟩ : ∃ k, i = k + 1 := ⟨i - 1, by omega⟩
              have := ih k (by simp; omega) (by simpa using hi)
              simp; exact this
      rw [hs]; exact digs_false _ _ _ dig46
    have hc : cutAt 46 (a ++ 46 :: b) = (a.take i, a.drop (i + 1) ++ 46 :: b, true) := by
      clear hd
      induction a generalizing i with
      | nil => simp at hi
      | cons x a ih =>
        by_cases hb : x = 46
        · subst hb
          simp [cutAt] at e
          cases i with
          | zero => simp [cutAt]
          | succ k => simp at e
        · simp [cutAt, hb] at e ⊢
          cases i with
          | zero => simp at e
          | succ k =>
            simp at e ⊢
            obtain ⟨h1, h2, h3⟩ := e
            unfold Lib.indexByte at hx
            rw [if_neg (by simpa using hb)] at hx
            have hg := Lib.indexByte_ge a 46
            by_cases hm : Lib.indexByte a 46 = -1
            · rw [if_pos (by simpa using hm)] at hx; simp at hx; omega
            · rw [if_neg (by simpa using hm)] at hx
              simp at hx
              have hk : Lib.indexByte a 46 = Int.ofNat k := by simp; omega
              have := ih k hk (by simp [Prod.ext_iff, h1, h2, h3]) (by simpa using hi)
              simp [this]
    rw [hc, hd]
    simp [parts, digs_false _ _ _ dig46]

/-- THE SECOND LAW -/
theorem plain_signed (a b : List UInt8) : plain (45 :: (a ++ 46 :: b)) = (digs a && digs b) := by
  unfold plain
  simp only [trim1]
  exact parts_join a b

theorem plain_bare (a b : List UInt8) (h : ∀ c l, a = c :: l → c ≠ 45) : plain (a ++ 46 :: b) = (digs a && digs b) := by
  unfold plain
  have : trim1 45 (a ++ 46 :: b) = a ++ 46 :: b := by
    cases a with
    | nil => simp [trim1]
    | cons c l => simp [trim1, h c l rfl]
  rw [this]
  exact parts_join a b

/-- countDigitBytes -/
def cnt (l : List UInt8) : Nat := (l.filter dig).length

theorem cnt_le (l : List UInt8) : cnt l ≤ l.length := List.length_filter_le _ _
theorem cnt_snoc (l : List UInt8) (c : UInt8) : cnt (l ++ [c]) = cnt l + if dig c then 1 else 0 := by
  unfold cnt
  cases h : dig c <;> simp [List.filter_append, h]
theorem cnt_all (l : List UInt8) : (cnt l = l.length) ↔ l.all dig = true := by
  unfold cnt
  rw [List.length_filter_eq_length_iff]
  simp
theorem digs_cnt (l : List UInt8) : digs l = (decide (0 < l.length) && decide (cnt l = l.length)) := by
  unfold digs
  congr 1
  · cases l <;> simp
  · rw [Bool.eq_iff_iff, decide_eq_true_iff, cnt_all]

theorem runA_snoc_step (l : List UInt8) (k st : Nat) (c : UInt8) (hc : l[k]? = some c) : runA st (l.drop k) = match step st c with | some st' => runA st' (l.drop (k + 1)) | none => false := by
  have hk := (List.getElem?_eq_some_iff.1 hc)
  obtain ⟨hk, e⟩ := hk
  rw [List.drop_eq_getElem_cons hk, e]
  rfl

theorem byte_eq (c d : UInt8) : (c == d) = decide ((c.toNat : Int) = (d.toNat : Int)) := by
  rw [Bool.eq_iff_iff]
  simp [← UInt8.toNat_inj]
  omega

theorem step_eq (st : Nat) (c : UInt8) (n : Int) (hn : (c.toNat : Int) = n) : step st c =
    if (st : Int) = 0 then (if n = 45 then some 1 else if 48 ≤ n ∧ n ≤ 57 then some 2 else none)
    else if (st : Int) = 1 then (if 48 ≤ n ∧ n ≤ 57 then some 2 else none)
    else if (st : Int) = 2 then (if n = 46 then some 3 else if 48 ≤ n ∧ n ≤ 57 then some 2 else none)
    else if (st : Int) = 3 then (if 48 ≤ n ∧ n ≤ 57 then some 4 else none)
    else (if 48 ≤ n ∧ n ≤ 57 then some st else none) := by
  subst hn
  unfold step dig
  simp only [byte_eq, decide_eq_true_eq]
  have e1 : (st = 0) = ((st : Int) = 0) := by apply propext; omega
  have e2 : (st = 1) = ((st : Int) = 1) := by apply propext; omega
  have e3 : (st = 2) = ((st : Int) = 2) := by apply propext; omega
  have e4 : (st = 3) = ((st : Int) = 3) := by apply propext; omega
  simp only [e1, e2, e3, e4]
  rfl

end Go.Proofs.Qxb6605437a.Pl
