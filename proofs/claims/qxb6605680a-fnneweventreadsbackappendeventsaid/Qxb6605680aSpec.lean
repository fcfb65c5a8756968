/-
  Seat b6605680a: THE PLAIN WORDS (no Go in sight): a line, a field of a line, what the data fields of an event come to line by line.
-/
import Derived.Lib.Bytealg
namespace Go.Proofs.Qxb6605680a.Sp

/-- byte i of l, as a number -/
def bt (l : List UInt8) (i : Nat) : Int := ((l[i]?.getD 0).toNat : Int)
theorem bt_lo (l : List UInt8) (i : Nat) : 0 ≤ bt l i := by unfold bt; omega
theorem bt_hi (l : List UInt8) (i : Nat) : bt l i ≤ 255 := by
  unfold bt; have := (l[i]?.getD 0).toNat_lt; omega
theorem bt_iff (l : List UInt8) (i : Nat) (h : i < l.length) (c : UInt8) : bt l i = (c.toNat : Int) ↔ l[i]? = some c := by
  unfold bt
  rw [List.getElem?_eq_getElem h]
  simp only [Option.getD_some, Option.some.injEq]
  constructor
  · intro e; exact UInt8.toNat_inj.1 (by omega)
  · intro e; rw [e]

/-- how long the first line of l is, its LF with it -/
def lineLen : List UInt8 → Nat
  | [] => 0
  | b :: l => if b == 10 then 1 else lineLen l + 1

theorem lineLen_le (l : List UInt8) : lineLen l ≤ l.length := by
  induction l with
  | nil => exact Nat.le_refl _
  | cons b l ih => simp only [lineLen]; split <;> simp <;> omega
theorem lineLen_pos (l : List UInt8) (h : 0 < l.length) : 0 < lineLen l := by
  cases l with
  | nil => simp at h
  | cons b l => simp only [lineLen]; split <;> omega
theorem lineLen_none (l : List UInt8) (h : Lib.indexByte l 10 = -1) : lineLen l = l.length := by
  induction l with
  | nil => rfl
  | cons b l ih =>
    unfold Lib.indexByte at h
    by_cases hb : (b == 10) = true
    · rw [if_pos hb] at h; omega
    · rw [if_neg hb] at h
      have hg := Lib.indexByte_ge l 10
      by_cases hi : Lib.indexByte l 10 = -1
      · unfold lineLen; rw [if_neg hb, ih hi]; rfl
      · rw [if_neg (by simpa using hi)] at h; omega
theorem lineLen_some (l : List UInt8) (i : Nat) (h : Lib.indexByte l 10 = i) : lineLen l = i + 1 := by
  induction l generalizing i with
  | nil => simp [Lib.indexByte] at h
  | cons b l ih =>
    unfold Lib.indexByte at h
    by_cases hb : (b == 10) = true
    · rw [if_pos hb] at h
      unfold lineLen; rw [if_pos hb]; omega
    · rw [if_neg hb] at h
      have hg := Lib.indexByte_ge l 10
      by_cases hi : Lib.indexByte l 10 = -1
      · rw [if_pos (by simpa using hi)] at h; omega
      · rw [if_neg (by simpa using hi)] at h
        unfold lineLen; rw [if_neg hb, ih (i - 1) (by omega)]; omega
/-- by its places -/
theorem lineLen_at (l : List UInt8) (j : Nat) (hj : j ≤ l.length) (hn : ∀ x, x < j → l[x]? ≠ some 10) (he : j < l.length → l[j]? = some 10) :
    lineLen l = if j < l.length then j + 1 else j := by
  induction l generalizing j with
  | nil => simp at hj; subst hj; rfl
  | cons b l ih =>
    cases j with
    | zero =>
      have := he (by simp)
      simp at this
      simp [lineLen, this]
    | succ j =>
      have h0 := hn 0 (by omega)
      simp at h0
      have := ih j (by simpa using hj) (fun x hx => by simpa using hn (x + 1) (by omega)) (fun h => by simpa using he (by simpa using h))
      simp only [lineLen]
      rw [if_neg (by simpa using h0), this]
      simp only [List.length_cons, Nat.add_lt_add_iff_right]
      split <;> rfl

/-- the length without a last byte c -/
def chop (c : UInt8) (l : List UInt8) : Nat := if l.getLast? = some c then l.length - 1 else l.length
theorem chop_le (c : UInt8) (l : List UInt8) : chop c l ≤ l.length := by unfold chop; split <;> omega

/-- a line's length without its end -/
def trimLen (l : List UInt8) : Nat := chop 13 (l.take (chop 10 l))
theorem trimLen_le (l : List UInt8) : trimLen l ≤ l.length := by
  have h1 := chop_le 13 (l.take (chop 10 l))
  simp only [List.length_take] at h1
  unfold trimLen; omega

/-- where the first colon stands, or the length -/
def colon : List UInt8 → Nat
  | [] => 0
  | b :: l => if b == 58 then 0 else colon l + 1
theorem colon_le (l : List UInt8) : colon l ≤ l.length := by
  induction l with
  | nil => exact Nat.le_refl _
  | cons b l ih => simp only [colon]; split <;> simp <;> omega
theorem colon_none (l : List UInt8) (h : Lib.indexByte l 58 = -1) : colon l = l.length := by
  induction l with
  | nil => rfl
  | cons b l ih =>
    unfold Lib.indexByte at h
    by_cases hb : (b == 58) = true
    · rw [if_pos hb] at h; omega
    · rw [if_neg hb] at h
      have hg := Lib.indexByte_ge l 58
      by_cases hi : Lib.indexByte l 58 = -1
      · unfold colon; rw [if_neg hb, ih hi]; rfl
      · rw [if_neg (by simpa using hi)] at h; omega
theorem colon_some (l : List UInt8) (i : Nat) (h : Lib.indexByte l 58 = i) : colon l = i ∧ i < l.length := by
  induction l generalizing i with
  | nil => simp [Lib.indexByte] at h
  | cons b l ih =>
    unfold Lib.indexByte at h
    by_cases hb : (b == 58) = true
    · rw [if_pos hb] at h
      unfold colon; rw [if_pos hb]; simp; omega
    · rw [if_neg hb] at h
      have hg := Lib.indexByte_ge l 58
      by_cases hi : Lib.indexByte l 58 = -1
      · rw [if_pos (by simpa using hi)] at h; omega
      · rw [if_neg (by simpa using hi)] at h
        have := ih (i - 1) (by omega)
        unfold colon; rw [if_neg hb, this.1]; simp; omega
theorem colon_at (l : List UInt8) (j : Nat) (hj : j ≤ l.length) (hn : ∀ x, x < j → l[x]? ≠ some 58) (he : j < l.length → l[j]? = some 58) : colon l = j := by
  induction l generalizing j with
  | nil => simp at hj; subst hj; rfl
  | cons b l ih =>
    cases j with
    | zero =>
      have := he (by simp)
      simp at this
      simp [colon, this]
    | succ j =>
      have h0 := hn 0 (by omega)
      simp at h0
      have := ih j (by simpa using hj) (fun x hx => by simpa using hn (x + 1) (by omega)) (fun h => by simpa using he (by simpa using h))
      simp only [colon]
      rw [if_neg (by simpa using h0), this]

/-- where the value begins (T: a line without its end) -/
def valAt (T : List UInt8) : Nat := if colon T < T.length then (if T[colon T + 1]? = some 32 then colon T + 2 else colon T + 1) else T.length
theorem valAt_le (T : List UInt8) : valAt T ≤ T.length := by
  unfold valAt
  split
  · split
    · rename_i h; have := (List.getElem?_eq_some_iff.1 h).1; omega
    · omega
  · exact Nat.le_refl _

def isData (T : List UInt8) : Bool := T.take (colon T) == [100, 97, 116, 97]
def hasCol (T : List UInt8) : Bool := decide (colon T < T.length)

/-- what has been gathered: how many fields; the first one's span, and whether it had a colon; all values joined -/
structure Acc where
  fields : Nat
  fs : Nat
  fe : Nat
  col : Bool
  joined : List UInt8

def acc0 : Acc := ⟨0, 0, 0, false, []⟩

/-- the line that begins at p, without its end -/
def lineAt (ev : List UInt8) (p : Nat) : List UInt8 := (ev.drop p).take (lineLen (ev.drop p))
def textAt (ev : List UInt8) (p : Nat) : List UInt8 := (lineAt ev p).take (trimLen (lineAt ev p))
def valOf (T : List UInt8) : List UInt8 := T.drop (valAt T)

def stepL (T : List UInt8) (p : Nat) (a : Acc) : Acc :=
  if isData T then
    (if a.fields = 0 then ⟨1, p + valAt T, p + T.length, hasCol T, a.joined ++ valOf T⟩
     else ⟨a.fields + 1, a.fs, a.fe, a.col, (a.joined ++ [10]) ++ valOf T⟩)
  else a

def iter (ev : List UInt8) : Nat → Nat × Acc
  | 0 => (0, acc0)
  | k + 1 => if (iter ev k).1 < ev.length then ((iter ev k).1 + lineLen (ev.drop (iter ev k).1), stepL (textAt ev (iter ev k).1) (iter ev k).1 (iter ev k).2) else iter ev k

/-- between two lines -/
def At (ev : List UInt8) (p : Nat) (a : Acc) : Prop := ∃ k, iter ev k = (p, a)
/-- all lines have been read -/
def Fin (ev : List UInt8) (a : Acc) : Prop := At ev ev.length a

theorem at0 (ev : List UInt8) : At ev 0 acc0 := ⟨0, rfl⟩
theorem at_step {ev : List UInt8} {p : Nat} {a : Acc} (h : At ev p a) (hp : p < ev.length) : At ev (p + lineLen (ev.drop p)) (stepL (textAt ev p) p a) := by
  obtain ⟨k, hk⟩ := h
  exact ⟨k + 1, by simp [iter, hk, hp]⟩
theorem iter_stay (ev : List UInt8) (k : Nat) (a : Acc) (h : iter ev k = (ev.length, a)) : ∀ j, iter ev (k + j) = (ev.length, a)
  | 0 => h
  | j + 1 => by
    have := iter_stay ev k a h j
    show iter ev (k + j + 1) = _
    simp [iter, this]
theorem fin_one {ev : List UInt8} {a b : Acc} (ha : Fin ev a) (hb : Fin ev b) : a = b := by
  obtain ⟨k, hk⟩ := ha
  obtain ⟨j, hj⟩ := hb
  have h1 := iter_stay ev k a hk j
  have h2 := iter_stay ev j b hj k
  rw [Nat.add_comm, h2] at h1
  injection h1 with _ e
  exact e.symm
theorem at_le {ev : List UInt8} {p : Nat} {a : Acc} (h : At ev p a) : p ≤ ev.length := by
  obtain ⟨k, hk⟩ := h
  have : (iter ev k).1 ≤ ev.length := by
    clear hk
    induction k with
    | zero => exact Nat.zero_le _
    | succ k ih =>
      simp only [iter]
      split
      · have := lineLen_le (ev.drop (iter ev k).1)
        simp at this ⊢
        omega
      · exact ih
  rw [hk] at this; exact this

theorem textAt_le (ev : List UInt8) (p : Nat) (h : p ≤ ev.length) : p + (textAt ev p).length ≤ p + lineLen (ev.drop p) ∧ p + lineLen (ev.drop p) ≤ ev.length := by
  have h1 := lineLen_le (ev.drop p)
  have h2 := trimLen_le (lineAt ev p)
  have h3 : (lineAt ev p).length = lineLen (ev.drop p) := by unfold lineAt; rw [List.length_take]; omega
  have h4 : (textAt ev p).length = trimLen (lineAt ev p) := by unfold textAt; rw [List.length_take]; omega
  rw [List.length_drop] at h1
  omega

theorem isData_len (T : List UInt8) (h : isData T = true) : 4 ≤ T.length ∧ colon T = 4 := by
  unfold isData at h
  have h2 : (T.take (colon T)).length = 4 := by rw [beq_iff_eq.1 h]; rfl
  have h3 := colon_le T
  rw [List.length_take] at h2
  omega

/-- the bounds that the walks want -/
structure Ok (n p : Nat) (a : Acc) : Prop where
  le : p ≤ n
  len : a.joined.length + a.fields ≤ p
  zero : a.fields = 0 → a.fs = 0 ∧ a.fe = 0 ∧ a.col = false ∧ a.joined = []
  span : a.fs ≤ a.fe ∧ a.fe ≤ n
  nocol : a.col = false → a.fs = a.fe

theorem ok_iter (ev : List UInt8) : ∀ k, Ok ev.length (iter ev k).1 (iter ev k).2
  | 0 => ⟨Nat.zero_le _, Nat.zero_le _, fun _ => ⟨rfl, rfl, rfl, rfl⟩, ⟨Nat.le_refl _, Nat.zero_le _⟩, fun _ => rfl⟩
  | k + 1 => by
    have ih := ok_iter ev k
    generalize hs : iter ev k = s at ih
    obtain ⟨p, a⟩ := s
    simp only [iter, hs]
    split
    · rename_i hlt
      have ht := textAt_le ev p ih.le
      simp only at ih hlt ⊢
      have hl : 1 ≤ lineLen (ev.drop p) := lineLen_pos _ (by simp; omega)
      unfold stepL
      split
      · rename_i hd
        have h4 := isData_len _ hd
        have hv := valAt_le (textAt ev p)
        have hvl : (valOf (textAt ev p)).length = (textAt ev p).length - valAt (textAt ev p) := by unfold valOf; rw [List.length_drop]
        have hc4 : 4 ≤ valAt (textAt ev p) := by
          unfold valAt; rw [h4.2]; split
          · split <;> omega
          · omega
        have hlen := ih.len
        split
        · rename_i h0
          have hz := ih.zero h0
          refine ⟨by omega, ?_, fun h => by simp at h, ⟨by simp; omega, by simp; omega⟩, fun h => ?_⟩
          · simp [hz.2.2.2]; omega
          · simp [hasCol] at h ⊢
            unfold valAt; rw [if_neg (by omega)]
        · refine ⟨by omega, ?_, fun h => by simp at h, ih.span, ih.nocol⟩
          simp; omega
      · exact ⟨by omega, by have := ih.len; omega, ih.zero, ih.span, ih.nocol⟩
    · exact ih
theorem at_ok {ev : List UInt8} {p : Nat} {a : Acc} (h : At ev p a) : Ok ev.length p a := by
  obtain ⟨k, hk⟩ := h
  have := ok_iter ev k
  rw [hk] at this
  exact this

theorem step_mono (T : List UInt8) (p : Nat) (a : Acc) : a.joined.length ≤ (stepL T p a).joined.length := by
  unfold stepL
  split
  · split <;> simp <;> omega
  · exact Nat.le_refl _
theorem iter_mono (ev : List UInt8) (k : Nat) : ∀ j, (iter ev k).2.joined.length ≤ (iter ev (k + j)).2.joined.length
  | 0 => Nat.le_refl _
  | j + 1 => by
    refine Nat.le_trans (iter_mono ev k j) ?_
    show _ ≤ (iter ev (k + j + 1)).2.joined.length
    simp only [iter]
    split
    · exact step_mono _ _ _
    · exact Nat.le_refl _
/-- what has been joined so far is no longer than all -/
theorem at_mono {ev : List UInt8} {p : Nat} {a b : Acc} (h : At ev p a) (hf : Fin ev b) : a.joined.length ≤ b.joined.length := by
  obtain ⟨k, hk⟩ := h
  obtain ⟨j, hj⟩ := hf
  have h1 := iter_mono ev k j
  have h2 := iter_stay ev j b hj k
  rw [Nat.add_comm j k] at h2
  rw [hk, h2] at h1
  exact h1

end Go.Proofs.Qxb6605680a.Sp
