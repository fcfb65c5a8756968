/-
  Seat b6605680a: THE WALK OF THE LAW FnNewEventReadsBackAppendEvent (4), behind its first guard; the callees' contracts as hypotheses.
-/
import Derived.Test.Qxb6605680aLaw4
namespace Go.Proofs.Qxb6605680a
open Go.RowKit Go.Shelf

theorem list_ne {l : List UInt8} (h : ∀ i, i < l.length → (Sp.bt l i == 10) = false) : ∀ x ∈ l, x ≠ 10 := by
  intro x hx e
  obtain ⟨i, hi, rfl⟩ := List.getElem_of_mem hx
  have := h i hi
  rw [beq_eq_false_iff_ne] at this
  exact this ((Sp.bt_iff l i hi 10).2 (by rw [List.getElem?_eq_getElem hi, e]))
theorem last_ne {l : List UInt8} (h : 0 < l.length → (Sp.bt l (l.length - 1) == 13) = false) : l.getLast? ≠ some 13 := by
  intro e
  by_cases h0 : 0 < l.length
  · have := h h0
    rw [beq_eq_false_iff_ne] at this
    rw [List.getLast?_eq_getElem?] at e
    exact this ((Sp.bt_iff l _ (by omega) 13).2 e)
  · have : l = [] := List.eq_nil_of_length_eq_zero (by omega)
    subst this; simp at e
theorem str_bt (s : ByteArray) (k : Nat) (h : k < s.size) : Sp.bt s.data.toList k = (s[k].toNat : Int) := by
  unfold Sp.bt
  rw [List.getElem?_eq_getElem (by simpa using h)]
  rfl

theorem ownsRow_belowW {W W' : World} {base : Nat} {v : Value} {k : Nat} {xs : List Value} (h : W.ownsRow base 5 1 v k xs) (hb : Below W.heap.size W W') : W'.ownsRow base 5 1 v k xs := by
  refine ⟨h.1, ?_⟩
  rcases h.2 with h1 | ⟨g, cap, cur, h1, h2, h3, h4⟩
  · exact .inl h1
  · exact .inr ⟨g, cap, cur, h1, h2, (hb.block _ (Array.getElem?_eq_some_iff.1 h3).1).trans h3, h4⟩
theorem SrcAt.belowX {W W' : World} {x : Option Addr} {c : Nat} {l : List UInt8} (h : SrcAt W x c l) (hb : Below W.heap.size W W') : SrcAt W' x c l := by
  rcases h with h | ⟨B, y, rfl, hs⟩
  · exact .inl h
  · refine .inr ⟨B, y, rfl, ?_⟩
    by_cases h0 : 0 < l.length
    · exact hs.below hb (hs.block h0)
    · intro i hi; omega
/-- a row that is not empty, written out -/
theorem owns_out {W : World} {base : Nat} {v : Value} {R : List UInt8} (h : W.ownsRow base 5 1 v R.length (cellsOf R)) (h0 : 0 < R.length) :
    ∃ g cap, v = .slice (some ⟨g, 0, none⟩) R.length cap ∧ base ≤ g ∧ R.length ≤ cap ∧ cap ≤ maxLen ∧ Seg W g 0 R := by
  rcases h.2 with ⟨_, h1⟩ | ⟨g, cap, cur, h1, h2, h3, h4, h5, h6, h7⟩
  · omega
  · have ho : OwnsAt W g cap R := ⟨h.1, .inr ⟨g, cap, cur, rfl, Nat.le_refl _, h3, h4, h5, h6, h7⟩⟩
    exact ⟨g, cap, h1, h2, h4, h5, ho.seg⟩

set_option maxRecDepth 100000 in
set_option maxHeartbeats 2000000 in
theorem law4_near (a b : Option Addr) (n c m d Bd od : Nat) (e : ByteArray) (S D T : List UInt8) (fs : Nat) (w : World) (hsum : (n : Int) + e.size + m ≤ 1048576)
    (hn : Hid (n = S.length)) (hm : Hid (m = D.length)) (hb : 0 < m → b = some ⟨Bd, od, none⟩) (hsD : Seg w Bd od D)
    (HS : Hid (Calls Try.prog 7 #[.slice a n c] w fun r w' => ∃ v1, r = .returned (.slice v1 n n) ∧ w'.ownsRow w.heap.size 5 1 (.slice v1 n n) S.length (cellsOf S) ∧ Below w.heap.size w w'))
    (HDc : Hid (∀ W, Below w.heap.size w W → Calls Try.prog 7 #[.slice b m d] W fun r w' => ∃ v2, r = .returned (.slice v2 m m) ∧ SrcAt w' v2 m D ∧ Below W.heap.size W w'))
    (HApp : Hid (∀ W v1 v2, w.heap.size ≤ W.heap.size → W.ownsRow w.heap.size 5 1 (.slice v1 n n) S.length (cellsOf S) → SrcAt W v2 m D → Calls Try.prog 14 #[.slice v1 n n, .string e, .slice v2 m m] W fun r w' =>
      (∃ v', r = .returned v' ∧ w'.ownsRow W.heap.size 5 1 v' (S ++ T).length (cellsOf (S ++ T))) ∧ Below W.heap.size W w'))
    (HFin : Hid ((∀ x ∈ e.data.toList, x ≠ 10) → (∀ x ∈ D, x ≠ 10) → D.getLast? ≠ some 13 → Sp.Fin T ⟨1, fs, fs + m, true, D⟩)) (hT : fs + m + 2 = T.length) (hT2 : T.length ≤ 2097152) (HTD : Hid ((T.drop fs).take m = D)) :
    Calls Try.prog 4 #[.slice a n c, .string e, .slice b m d] w fun r w' => r = .returned (.bool true) ∧ Below w.heap.size w w' := by
  have hz := fun w => zz13_any a b n c m d e w (by omega) (by omega) (by omega)
  simp only [show decide ((n : Int) + e.size + m ≤ 1048576) = true by simpa using hsum] at hz
  have HZ : Hid (∀ w, Calls Try.prog 13 #[.slice a n c, .string e, .slice b m d] w fun r w' => r = .returned (.bool true) ∧ w = w') := fun w => (hz w).mono (fun _ _ h => ⟨h.1, h.2.symm⟩)
  clear hz
  have hn1 : (n : Int) ≤ 1048576 := by omega
  have hm1 : (m : Int) ≤ 1048576 := by omega
  have he1 : (e.size : Int) ≤ 1048576 := by omega
  have HT : Hid (fs + m + 2 = T.length) := hT
  clear hT
  go_enter Try.func4, Try.ntmps4
  go_wp2_with (go_at_call 13; refine (HZ.out _).mono ?_; rintro r w' ⟨rfl, rfl⟩)
  go_loop [7] (fun i => ∃ k : Nat, k ≤ e.size ∧ i = .int .i64 (k : Nat) ∧ Hid (∀ x, x < k → (Sp.bt e.data.toList x == 10) = false)) (fun i => e.size - (intOf i).toNat)
  case atStart => exact ⟨0, Nat.zero_le _, rfl, fun x hx => by omega⟩
  case round =>
    obtain ⟨k, hk, rfl, HK⟩ := hrel
    by_cases hlt : k < e.size
    · have hsb := str_bt e k hlt
      by_cases h10 : ((e[k].toNat : Int) == 10) = true
      · clear hsb
        go_wp2
        go_ret
        exact ⟨rfl, Below.refl _ _⟩
      · have h10' : ((e[k].toNat : Int) == 10) = false := by simpa using h10
        have HK2 : Hid (∀ x, x < k + 1 → (Sp.bt e.data.toList x == 10) = false) := by
          intro x hx
          by_cases hxk : x < k
          · exact HK.out x hxk
          · obtain rfl : x = k := by omega
            rw [hsb]; exact h10'
        clear hsb h10
        go_wp2
        go_round
        case rel => exact ⟨k + 1, by omega, by go_num, HK2⟩
        case measure => simp [intOf]; omega
    · have HE : Hid (∀ x ∈ e.data.toList, x ≠ 10) := list_ne (fun i hi => HK.out i (by simp at hi; omega))
      clear HK
      go_wp2
      go_loop [8] (fun i => ∃ k : Nat, k ≤ m ∧ i = .int .i64 (k : Nat) ∧ Hid (∀ x, x < k → (Sp.bt D x == 10) = false)) (fun i => m - (intOf i).toNat)
      case atStart => exact ⟨0, Nat.zero_le _, rfl, fun x hx => by omega⟩
      case round =>
        obtain ⟨j, hj, rfl, HJ⟩ := hrel
        by_cases hjm : j < m
        · obtain rfl := hb (by omega)
          have g1 := hsD j (by have := hm.out; omega)
          have c1 : (j : Int) < (m : Int) := by omega
          by_cases h10 : (Sp.bt D j == 10) = true
          · go_wp2
            go_ret
            exact ⟨rfl, Below.refl _ _⟩
          · have h10' : (Sp.bt D j == 10) = false := by simpa using h10
            have HJ2 : Hid (∀ x, x < j + 1 → (Sp.bt D x == 10) = false) := by
              intro x hx
              by_cases hxk : x < j
              · exact HJ.out x hxk
              · obtain rfl : x = j := by omega
                exact h10'
            clear h10
            go_wp2
            go_round
            case rel => exact ⟨j + 1, by omega, by go_num, HJ2⟩
            case measure => simp [intOf]; omega
        · have HDn : Hid (∀ x ∈ D, x ≠ 10) := list_ne (fun i hi => HJ.out i (by have := hm.out; omega))
          clear HJ
          by_cases hm0 : (0 : Int) < (m : Int)
          · obtain rfl := hb (by omega)
            have g1 := hsD (m - 1) (by have := hm.out; omega)
            have c1 : (m : Int) - 1 < (m : Int) := by omega
            by_cases h13 : (Sp.bt D (m - 1) == 13) = true
            · go_wp2
              go_ret
              exact ⟨rfl, Below.refl _ _⟩
            · have h13' : (Sp.bt D (m - 1) == 13) = false := by simpa using h13
              have HL : Hid (D.getLast? ≠ some 13) := last_ne (fun _ => by rw [← hm.out]; exact h13')
              clear h13
              go_wp2_with fail
              refine HS.out.mono ?_
              rintro r w1 ⟨v1, rfl, o1, hb1⟩
              have z1 := hb1.size
              have HD1 := HDc.out w1 hb1
              have HDD : Hid (Calls Try.prog 7 #[.slice (some ⟨Bd, od, none⟩) m d] w1 _) := HD1
              clear HD1
              go_wp2_with fail
              refine HDD.out.mono ?_
              rintro r w2 ⟨v2, rfl, hD2, hb2⟩
              have z2 := hb2.size
              have o2 : w2.ownsRow w.heap.size 5 1 (.slice v1 n n) S.length (cellsOf S) := ownsRow_belowW o1 hb2
              have HA := HApp.out w2 v1 v2 (by omega) o2 hD2
              have HAA : Hid (Calls Try.prog 14 #[.slice v1 n n, .string e, .slice v2 m m] w2 _) := HA
              clear HA HDD o1 o2
              go_wp2_with fail
              refine HAA.out.mono ?_
              rintro r w3 ⟨⟨v', rfl, o3⟩, hb3⟩
              have z3 := hb3.size
              have hD3 : SrcAt w3 v2 m D := hD2.belowX hb3
              obtain ⟨g, cap, rfl, hg, hcap, hcm, hO3⟩ := owns_out o3 (by simp; have := HT.out; omega)
              have hg3 : Seg w3 g 0 (S ++ T) := hO3
              have hRl : (S ++ T).length = n + T.length := by rw [List.length_append, ← hn.out]
              have HRl : Hid ((S ++ T).length = n + T.length) := hRl
              have hsT : Seg w3 g (0 + n) T := by
                have := hg3.sub n T.length
                rw [hn.out, List.drop_left, List.take_length] at this
                rw [hn.out]; exact this
              rw [hRl] at hcap ⊢
              have hmT : (n : Int) + (m : Int) + 2 ≤ (n : Int) + (T.length : Int) := by have := HT.out; omega
              have hTp : 0 < T.length := by have := HT.out; omega
              have hnc : (n : Int) ≤ (cap : Int) := by omega
              have hncn : ¬ n = cap := by omega
              clear HAA hD2 o3 hO3 hRl
              go_wp2_with fail
              have HE8 := newEvent_any (some ⟨g, n, none⟩) g n (cap - n) T w3 (by omega) (by omega) (by unfold maxLen at hcm; omega) (fun _ => rfl) (by rw [Nat.zero_add] at hsT; exact hsT)
              have HE9 : Hid (Calls Try.prog 8 #[.slice (some ⟨g, n, none⟩) T.length (cap - n)] w3 _) := HE8
              clear HE8
              refine HE9.out.mono ?_
              rintro r w4 ⟨⟨acc, v, jj, hF, rfl, hDt⟩, hb4⟩
              obtain rfl : acc = ⟨1, fs, fs + m, true, D⟩ := Sp.fin_one hF (HFin.out HE.out HDn.out HL.out)
              have hDt2 : jj = false ∧ ∃ x cc, v = .slice (some ⟨g, x, none⟩) m cc ∧ m ≤ cc ∧ (0 < m → x = n + fs) := by
                rcases hDt with ⟨_, rfl, ⟨h, _⟩ | ⟨_, x, cc, rfl, h1, h2, h3⟩⟩ | ⟨h, _⟩
                · simp at h
                · have e1 : fs + m - fs = m := by omega
                  simp only [e1] at h1 h3
                  exact ⟨rfl, x, cc, by simp only [e1], h1, h3⟩
                · simp at h
              obtain ⟨rfl, x, cc, rfl, hmc, hx⟩ := hDt2
              have HX : Hid (0 < m → x = n + fs) := hx
              have z4 := hb4.size
              clear HE9 hF hDt hx
              go_wp2_with fail
              refine (same_any (some ⟨g, n, none⟩) T.length (cap - n) _ (fun _ => ⟨g, n, rfl⟩)).mono ?_
              rintro r w5 ⟨rfl, hb5⟩
              rw [World.size_alloc] at hb5
              have z5 := hb5.size
              rw [World.size_alloc] at z5
              have HS5 : Hid (w5.heap[w4.heap.size]? = some (.cells #[.slice (some ⟨g, n, none⟩) T.length (cap - n), .slice (some ⟨g, x, none⟩) m cc, .bool false] 26)) := (hb5.block _ (by omega)).trans (World.alloc_heap_new w4 _)
              have q0 : w5.cell? ⟨w4.heap.size, 0, none⟩ = some (.slice (some ⟨g, n, none⟩) T.length (cap - n)) := by simp [World.cell?, HS5.out]
              have q1 : w5.cell? ⟨w4.heap.size, 1, none⟩ = some (.slice (some ⟨g, x, none⟩) m cc) := by simp [World.cell?, HS5.out]
              have q2 : w5.cell? ⟨w4.heap.size, 2, none⟩ = some (.bool false) := by simp [World.cell?, HS5.out]
              go_wp2_with fail
              refine (joined_any _ _ _ _ _ _ _ _).mono ?_
              rintro r w6 ⟨rfl, hb6⟩
              have z6 := hb6.size
              have HS6 : Hid (w6.heap[w4.heap.size]? = some (.cells #[.slice (some ⟨g, n, none⟩) T.length (cap - n), .slice (some ⟨g, x, none⟩) m cc, .bool false] 26)) := (hb6.block _ (by omega)).trans HS5.out
              have hB36 : Below w3.heap.size w3 w6 := ((hb4.alloc (by omega) (.cells #[.slice (some ⟨g, n, none⟩) T.length (cap - n), .slice (some ⟨g, x, none⟩) m cc, .bool false] 26)).trans (hb5.mono (by omega))).trans (hb6.mono (by omega))
              have HB6 : Hid (Below w.heap.size w w6) := ((hb1.trans (hb2.mono (by omega))).trans (hb3.mono (by omega))).trans (hB36.mono (by omega))
              have hs6 : Seg w6 g n T := by
                rw [Nat.zero_add] at hsT
                exact hsT.below hB36 (hsT.block hTp)
              have hD6 : SrcAt w6 v2 m D := hD3.belowX hB36
              clear q0 q1 q2
              have q1 : w6.cell? ⟨w4.heap.size, 1, none⟩ = some (.slice (some ⟨g, x, none⟩) m cc) := by simp [World.cell?, HS6.out]
              have hq := eqnil
              obtain ⟨B2, y2, HD2⟩ : ∃ B2 y2, Hid (Seg w6 B2 y2 D ∧ (0 < D.length → v2 = some ⟨B2, y2, none⟩)) := by
                rcases hD6 with ⟨rfl, _, rfl⟩ | ⟨B2, y2, rfl, hs⟩
                · exact ⟨0, 0, fun i hi => by simp at hi, fun h => by simp at h⟩
                · exact ⟨B2, y2, hs, fun _ => rfl⟩
              have hsD6 : Seg w6 g x D := by
                by_cases h0 : 0 < m
                · rw [HX.out h0]
                  have := hs6.sub fs m
                  rwa [HTD.out] at this
                · intro i hi; have := hm.out; omega
              have HEQ : Hid (Calls Try.prog 12 #[.slice (some ⟨g, x, none⟩) m cc, .slice v2 m m] w6 fun e w' => e = .returned (.bool true) ∧ Below w6.heap.size w6 w') := by
                have := equal_any (some ⟨g, x, none⟩) v2 cc m g x B2 y2 D D w6 (fun _ => rfl) HD2.out.2 hsD6 HD2.out.1 (by have := hm.out; omega) (by have := hm.out; omega) rfl
                rwa [← hm.out] at this
              have hzs : w4.heap.size < w6.heap.size := by omega
              clear HS5 HS6 hb1 hb2 hb3 hb4 hb5 hb6 hB36 hs6 hD6 hsD6 HD2 hD3 hg3 hsT
              go_wp2_with (go_at_call 12; refine HEQ.out.mono ?_; rintro r w7 ⟨rfl, hb7⟩; have q7 := (hb7.cell (p := ⟨w4.heap.size, 1, none⟩) hzs).trans q1)
              have e1 : ((n : Int) + (T.length : Int) - 2 - (m : Int)) < (n : Int) + (T.length : Int) := by omega
              have e2 : (0 : Int) ≤ ((n : Int) + (T.length : Int) - 2 - (m : Int)) := by omega
              obtain rfl : x = n + fs := HX.out (by omega)
              have hT9 := HT.out
              have e3 : n + fs = n + T.length - 2 - m := by omega
              have hp := fun w => ptr_same w ⟨g, n + T.length - 2 - m, none⟩
              go_region
              all_goals
                go_wp2
                go_ret
                exact ⟨rfl, (HB6.out.trans (hb7.mono HB6.out.size)).drew⟩
          · have HL : Hid (D.getLast? ≠ some 13) := last_ne (fun h => by have := hm.out; omega)
            go_wp2_with fail
            refine HS.out.mono ?_
            rintro r w1 ⟨v1, rfl, o1, hb1⟩
            have z1 := hb1.size
            have HD1 := HDc.out w1 hb1
            have HDD : Hid (Calls Try.prog 7 #[.slice b m d] w1 _) := HD1
            clear HD1
            go_wp2_with fail
            refine HDD.out.mono ?_
            rintro r w2 ⟨v2, rfl, hD2, hb2⟩
            have z2 := hb2.size
            have o2 : w2.ownsRow w.heap.size 5 1 (.slice v1 n n) S.length (cellsOf S) := ownsRow_belowW o1 hb2
            have HA := HApp.out w2 v1 v2 (by omega) o2 hD2
            have HAA : Hid (Calls Try.prog 14 #[.slice v1 n n, .string e, .slice v2 m m] w2 _) := HA
            clear HA HDD o1 o2
            go_wp2_with fail
            refine HAA.out.mono ?_
            rintro r w3 ⟨⟨v', rfl, o3⟩, hb3⟩
            have z3 := hb3.size
            have hD3 : SrcAt w3 v2 m D := hD2.belowX hb3
            obtain ⟨g, cap, rfl, hg, hcap, hcm, hO3⟩ := owns_out o3 (by simp; have := HT.out; omega)
            have hg3 : Seg w3 g 0 (S ++ T) := hO3
            have hRl : (S ++ T).length = n + T.length := by rw [List.length_append, ← hn.out]
            have HRl : Hid ((S ++ T).length = n + T.length) := hRl
            have hsT : Seg w3 g (0 + n) T := by
              have := hg3.sub n T.length
              rw [hn.out, List.drop_left, List.take_length] at this
              rw [hn.out]; exact this
            rw [hRl] at hcap ⊢
            have hmT : (n : Int) + (m : Int) + 2 ≤ (n : Int) + (T.length : Int) := by have := HT.out; omega
            have hTp : 0 < T.length := by have := HT.out; omega
            have hnc : (n : Int) ≤ (cap : Int) := by omega
            have hncn : ¬ n = cap := by omega
            clear HAA hD2 o3 hO3 hRl
            go_wp2_with fail
            have HE8 := newEvent_any (some ⟨g, n, none⟩) g n (cap - n) T w3 (by omega) (by omega) (by unfold maxLen at hcm; omega) (fun _ => rfl) (by rw [Nat.zero_add] at hsT; exact hsT)
            have HE9 : Hid (Calls Try.prog 8 #[.slice (some ⟨g, n, none⟩) T.length (cap - n)] w3 _) := HE8
            clear HE8
            refine HE9.out.mono ?_
            rintro r w4 ⟨⟨acc, v, jj, hF, rfl, hDt⟩, hb4⟩
            obtain rfl : acc = ⟨1, fs, fs + m, true, D⟩ := Sp.fin_one hF (HFin.out HE.out HDn.out HL.out)
            have hDt2 : jj = false ∧ ∃ x cc, v = .slice (some ⟨g, x, none⟩) m cc ∧ m ≤ cc ∧ (0 < m → x = n + fs) := by
              rcases hDt with ⟨_, rfl, ⟨h, _⟩ | ⟨_, x, cc, rfl, h1, h2, h3⟩⟩ | ⟨h, _⟩
              · simp at h
              · have e1 : fs + m - fs = m := by omega
                simp only [e1] at h1 h3
                exact ⟨rfl, x, cc, by simp only [e1], h1, h3⟩
              · simp at h
            obtain ⟨rfl, x, cc, rfl, hmc, hx⟩ := hDt2
            have HX : Hid (0 < m → x = n + fs) := hx
            have z4 := hb4.size
            clear HE9 hF hDt hx
            go_wp2_with fail
            refine (same_any (some ⟨g, n, none⟩) T.length (cap - n) _ (fun _ => ⟨g, n, rfl⟩)).mono ?_
            rintro r w5 ⟨rfl, hb5⟩
            rw [World.size_alloc] at hb5
            have z5 := hb5.size
            rw [World.size_alloc] at z5
            have HS5 : Hid (w5.heap[w4.heap.size]? = some (.cells #[.slice (some ⟨g, n, none⟩) T.length (cap - n), .slice (some ⟨g, x, none⟩) m cc, .bool false] 26)) := (hb5.block _ (by omega)).trans (World.alloc_heap_new w4 _)
            have q0 : w5.cell? ⟨w4.heap.size, 0, none⟩ = some (.slice (some ⟨g, n, none⟩) T.length (cap - n)) := by simp [World.cell?, HS5.out]
            have q1 : w5.cell? ⟨w4.heap.size, 1, none⟩ = some (.slice (some ⟨g, x, none⟩) m cc) := by simp [World.cell?, HS5.out]
            have q2 : w5.cell? ⟨w4.heap.size, 2, none⟩ = some (.bool false) := by simp [World.cell?, HS5.out]
            go_wp2_with fail
            refine (joined_any _ _ _ _ _ _ _ _).mono ?_
            rintro r w6 ⟨rfl, hb6⟩
            have z6 := hb6.size
            have HS6 : Hid (w6.heap[w4.heap.size]? = some (.cells #[.slice (some ⟨g, n, none⟩) T.length (cap - n), .slice (some ⟨g, x, none⟩) m cc, .bool false] 26)) := (hb6.block _ (by omega)).trans HS5.out
            have hB36 : Below w3.heap.size w3 w6 := ((hb4.alloc (by omega) (.cells #[.slice (some ⟨g, n, none⟩) T.length (cap - n), .slice (some ⟨g, x, none⟩) m cc, .bool false] 26)).trans (hb5.mono (by omega))).trans (hb6.mono (by omega))
            have HB6 : Hid (Below w.heap.size w w6) := ((hb1.trans (hb2.mono (by omega))).trans (hb3.mono (by omega))).trans (hB36.mono (by omega))
            have hs6 : Seg w6 g n T := by
              rw [Nat.zero_add] at hsT
              exact hsT.below hB36 (hsT.block hTp)
            have hD6 : SrcAt w6 v2 m D := hD3.belowX hB36
            clear q0 q1 q2
            have q1 : w6.cell? ⟨w4.heap.size, 1, none⟩ = some (.slice (some ⟨g, x, none⟩) m cc) := by simp [World.cell?, HS6.out]
            have hq := eqnil
            obtain ⟨B2, y2, HD2⟩ : ∃ B2 y2, Hid (Seg w6 B2 y2 D ∧ (0 < D.length → v2 = some ⟨B2, y2, none⟩)) := by
              rcases hD6 with ⟨rfl, _, rfl⟩ | ⟨B2, y2, rfl, hs⟩
              · exact ⟨0, 0, fun i hi => by simp at hi, fun h => by simp at h⟩
              · exact ⟨B2, y2, hs, fun _ => rfl⟩
            have hsD6 : Seg w6 g x D := by
              by_cases h0 : 0 < m
              · rw [HX.out h0]
                have := hs6.sub fs m
                rwa [HTD.out] at this
              · intro i hi; have := hm.out; omega
            have HEQ : Hid (Calls Try.prog 12 #[.slice (some ⟨g, x, none⟩) m cc, .slice v2 m m] w6 fun e w' => e = .returned (.bool true) ∧ Below w6.heap.size w6 w') := by
              have := equal_any (some ⟨g, x, none⟩) v2 cc m g x B2 y2 D D w6 (fun _ => rfl) HD2.out.2 hsD6 HD2.out.1 (by have := hm.out; omega) (by have := hm.out; omega) rfl
              rwa [← hm.out] at this
            have hzs : w4.heap.size < w6.heap.size := by omega
            clear HS5 HS6 hb1 hb2 hb3 hb4 hb5 hb6 hB36 hs6 hD6 hsD6 HD2 hD3 hg3 hsT
            go_wp2_with (go_at_call 12; refine HEQ.out.mono ?_; rintro r w7 ⟨rfl, hb7⟩)
            go_ret
            exact ⟨rfl, HB6.out.trans (hb7.mono HB6.out.size)⟩

end Go.Proofs.Qxb6605680a
