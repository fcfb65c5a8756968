/-
  Seat b6605680a: THE WALK OF nevModelSseB1 (10).
-/
import Derived.Test.Qxb6605680aClone
import Derived.Test.Qxb6605680aSpec2
import Derived.Deep.DeepCutAuto
import Derived.Deep.CutBlock
import Derived.Deep.DeepMust
namespace Go.Proofs.Qxb6605680a
open Go.RowKit Go.Shelf

/-- what the model's loop has gathered, p bytes having been read -/
def NevAt (w : World) (B o : Nat) (ev : List UInt8) (f s e c jv i : Value) (wr : World) : Prop :=
  ∃ (p : Nat) (acc : Sp.Acc), p ≤ ev.length ∧ Sp.At ev p acc ∧ f = .int .i64 (acc.fields : Nat) ∧ s = .int .i64 (acc.fs : Nat) ∧ e = .int .i64 (acc.fe : Nat) ∧ c = .bool acc.col ∧ i = .int .i64 (p : Nat) ∧
    wr.ownsRow w.heap.size 5 1 jv acc.joined.length (cellsOf acc.joined) ∧ (∃ x n' c', jv = .slice x n' c') ∧ Below w.heap.size w wr ∧ Seg wr B o ev

theorem own_ge {W : World} {base : Nat} {v : Value} {k : Nat} {xs : List Value} (h : W.ownsRow base 5 1 v k xs) : ∀ g, v.ownBlock = some g → base ≤ g := by
  intro g e
  rcases h.2 with ⟨rfl, _⟩ | ⟨g', cap, cur, rfl, hb, _⟩
  · simp [Value.ownBlock] at e
  · simp [Value.ownBlock] at e; omega
theorem own_slice {W : World} {base : Nat} {v : Value} {k : Nat} {xs : List Value} (h : W.ownsRow base 5 1 v k xs) : ∃ x n c, v = .slice x n c := by
  rcases h.2 with ⟨rfl, _⟩ | ⟨g', cap, cur, rfl, hb, _⟩
  · exact ⟨_, _, _, rfl⟩
  · exact ⟨_, _, _, rfl⟩

/-- 'dst = append(dst, src...)', dst a row of the call's own that may grow -/
theorem wpList_app (w : World) {ops : Array Oper} {rest : List Oper} {o : Oper} {a : Act} {Q : Exit → Act → World → Prop} (hgd : o.guard = none) (s x : Operand)
    (ho : o.op = .call { callee := .builtin .append, args := #[s, x], argTypes := #[22, 22] }) (base : Nat) (v : Value) (l l' : List UInt8) (hs : a.eval s = v) (hown : w.ownsRow base 5 1 v l.length (cellsOf l))
    (B y m c : Nat) (hm : m = l'.length) (hx : a.eval x = .slice (some ⟨B, y, none⟩) m c) (hsrc : Seg w B y l') (hb : l.length + m ≤ 140737488355328) (hbase : base ≤ w.heap.size)
    (h : ∀ v' w', w'.ownsRow base 5 1 v' (l ++ l').length (cellsOf (l ++ l')) → w.grownBy w' v.ownBlock → (∃ x n c, v' = .slice x n c) → wpList Try.prog ops Q rest (a.put o.dst v') w') : wpList Try.prog ops Q (o :: rest) a w := by
  obtain ⟨i0, hi, hz0, hz1, hz2⟩ := info_parts info5
  subst hm
  refine wpList_append_own w hgd s x 22 ho base 5 i0 _ 1 1 Try.underlying22 hi hz0 hz1 hz2 rfl (by decide) v l.length (cellsOf l) hs hown ⟨B, y, none⟩ l'.length c (cellsOf l') hx (by rw [cellsOf_length]; omega) ?_ (cellsOf_one l') (by unfold maxLen; omega) (by omega) hbase ?_
  · intro j u hu
    obtain ⟨hj, rfl⟩ := cellsOf_at l' j u hu
    rw [add_addr]; exact hsrc j hj
  · intro v' w' ho' hg _
    rw [← cellsOf_append, ← List.length_append] at ho'
    exact h v' w' ho' hg (own_slice ho')

set_option maxRecDepth 100000 in
set_option maxHeartbeats 2000000 in
theorem nev_some (B o cap : Nat) (ev : List UInt8) (w : World) (hcap : ev.length ≤ cap) (hm : cap ≤ 140737488355328) (h0 : 0 < ev.length) (hs : Seg w B o ev) :
    Calls Try.prog 10 #[.slice (some ⟨B, o, none⟩) ev.length cap] w fun e w' =>
      (∃ (a : Sp.Acc) (jv : Value), Sp.Fin ev a ∧ e = .returned (.tuple #[.int .i64 (a.fields : Nat), .int .i64 (a.fs : Nat), .int .i64 (a.fe : Nat), .bool a.col, jv]) ∧ w'.ownsRow w.heap.size 5 1 jv a.joined.length (cellsOf a.joined)) ∧ Below w.heap.size w w' := by
  have hBw := hs.block h0
  obtain ⟨n, Hn⟩ : ∃ n, Hid (n = ev.length) := ⟨_, rfl⟩
  rw [← Hn.out] at h0 hcap ⊢
  go_enter Try.func10, Try.ntmps10
  go_wp2
  go_loopw [2, 3, 4, 5, 6, 7] (fun f s e c jv i wr => NevAt w B o ev f s e c jv i wr) (fun _ _ _ _ _ i _ => n - (intOf i).toNat)
  case atStart => exact ⟨0, Sp.acc0, Nat.zero_le _, Sp.at0 ev, rfl, rfl, rfl, rfl, rfl, World.ownsRow_nil _ _ _ _, ⟨_, _, _, rfl⟩, Below.refl _ _, hs⟩
  case round =>
    obtain ⟨p, acc, hp, hA, rfl, rfl, rfl, rfl, rfl, hR, ⟨jx, jn, jc, rfl⟩, hB, hS⟩ := hrel
    rw [← Hn.out] at hp
    have hok := Sp.at_ok hA
    by_cases hlt : p < n
    · have hlt' : p < ev.length := by rw [← Hn.out]; exact hlt
      have hJ := Sp.brk_le (ev.drop p)
      rw [List.length_drop, ← Hn.out] at hJ
      obtain ⟨J, HJ⟩ : ∃ J, Hid (J = p + Sp.brk (ev.drop p)) := ⟨_, rfl⟩
      have hJ1 : p ≤ J := by have := HJ.out; omega
      have hJ2 : J ≤ n := by have := HJ.out; omega
      have hne : ∀ x, p ≤ x → x < J → (Sp.bt ev x != 10) = true := by
        intro x hx1 hx2
        have hj := HJ.out
        rw [bne_iff_ne]
        intro e
        have h2 := Sp.brk_ne (ev.drop p) (x - p) (by omega)
        rw [List.getElem?_drop, show p + (x - p) = x by omega] at h2
        exact h2 ((Sp.bt_iff ev x (by have := Hn.out; omega) 10).1 e)
      have hat : J < n → (Sp.bt ev J != 10) = false := by
        intro hx
        have hj := HJ.out
        have h2 := Sp.brk_at (ev.drop p) (by rw [List.length_drop, ← Hn.out]; omega)
        rw [List.getElem?_drop, ← hj] at h2
        have := (Sp.bt_iff ev J (by have := Hn.out; omega) 10).2 h2
        rw [this]; rfl
      have hsc : ∀ x, x < n → wr.cell? ⟨B, o + x, none⟩ = some (.int .u8 (Sp.bt ev x)) := fun x hx => hS x (by have := Hn.out; omega)
      have HSC : Hid (∀ x, x < n → wr.cell? ⟨B, o + x, none⟩ = some (.int .u8 (Sp.bt ev x))) := hsc
      have HNE : Hid (∀ x, p ≤ x → x < J → (Sp.bt ev x != 10) = true) := hne
      have HAT : Hid (J < n → (Sp.bt ev J != 10) = false) := hat
      have htl := Sp.textAt_len ev p hlt'
      obtain ⟨E, HE⟩ : ∃ E, Hid (E = p + (Sp.textAt ev p).length) := ⟨_, rfl⟩
      have HE2 : Hid (E = if p < J ∧ Sp.bt ev (J - 1) = 13 then J - 1 else J) := by
        have h1 := HE.out
        have h2 := HJ.out
        unfold Hid
        rw [h1, htl]
        rw [← h2]
        by_cases hc : p < J ∧ Sp.bt ev (J - 1) = 13
        · rw [if_pos hc, if_pos ⟨by omega, hc.2⟩]; omega
        · rw [if_neg hc, if_neg (fun h => hc ⟨by omega, h.2⟩)]; omega
      have hE1 : p ≤ E := by have := HE.out; omega
      have hE2 : E ≤ J := by have := HE2.out; split at this <;> omega
      have HX : Hid (p + Sp.lineLen (ev.drop p) = if J < n then J + 1 else J) := by
        have h2 := HJ.out
        unfold Hid
        rw [Sp.lineLen_brk, List.length_drop, ← Hn.out]
        by_cases hc : J < n
        · rw [if_pos hc, if_pos (by omega)]; omega
        · rw [if_neg hc, if_neg (by omega)]; omega
      have hdl := Sp.colon_le (Sp.textAt ev p)
      obtain ⟨C, HC⟩ : ∃ C, Hid (C = p + Sp.colon (Sp.textAt ev p)) := ⟨_, rfl⟩
      have hC1 : p ≤ C := by have := HC.out; omega
      have hC2 : C ≤ E := by have := HC.out; have := HE.out; omega
      have HCN : Hid (∀ x, p ≤ x → x < C → (Sp.bt ev x != 58) = true) := by
        intro x hx1 hx2
        have h1 := HC.out
        have h2 := Sp.colon_ne (Sp.textAt ev p) (x - p) (by omega)
        rw [bne_iff_ne]
        intro e
        have e2 := Sp.textAt_bt ev p (x - p) hlt' (by omega)
        rw [show p + (x - p) = x by omega, e] at e2
        exact h2 ((Sp.bt_iff _ _ (by omega) 58).1 e2)
      have HCA : Hid (C < E → (Sp.bt ev C != 58) = false) := by
        intro hx
        have h1 := HC.out
        have h3 := HE.out
        have h2 := Sp.colon_is (Sp.textAt ev p) (by omega)
        have e2 := Sp.textAt_bt ev p (Sp.colon (Sp.textAt ev p)) hlt' (by omega)
        rw [← h1, (Sp.bt_iff _ _ (by omega) 58).2 h2] at e2
        rw [← e2]; rfl
      clear hne hat hsc htl
      go_upto_block 2 with fail
      go_cut [8] (fun j wx => j = .int .i64 (J : Nat) ∧ wr = wx)
      case first =>
        go_wp2_with fail
        go_loop [8] (fun j => ∃ x : Nat, p ≤ x ∧ x ≤ J ∧ j = .int .i64 (x : Nat)) (fun j => J - (intOf j).toNat)
        case atStart => exact ⟨p, Nat.le_refl _, hJ1, rfl⟩
        case round =>
          obtain ⟨x, hx1, hx2, rfl⟩ := hrel
          by_cases hxJ : x < J
          · have g1 := HSC.out x (by omega)
            have g2 := HNE.out x hx1 hxJ
            have hxn : (x : Int) < (n : Int) := by omega
            generalize Sp.bt ev x = y at *
            go_wp2
            go_round
            case rel => exact ⟨x + 1, by omega, by omega, by go_num⟩
            case measure => simp [intOf]; omega
          · obtain rfl : x = J := by omega
            by_cases hJn : x < n
            · have g1 := HSC.out x hJn
              have g2 := HAT.out hJn
              have hxn : (x : Int) < (n : Int) := by omega
              go_wp2
              go_meet
              case rel => exact ⟨rfl, rfl⟩
            · go_wp2
              go_meet
              case rel => exact ⟨rfl, rfl⟩
      case rest =>
        obtain ⟨rfl, rfl⟩ := hcut
        go_upto_if 36 with fail
        go_cut [9] (fun j wx => j = .int .i64 ((p + Sp.lineLen (ev.drop p) : Nat) : Int) ∧ wr = wx)
        case first =>
          by_cases hJn : (J : Int) < (n : Int)
          · go_wp2
            go_meet
            case rel => exact ⟨by rw [HX.out, if_pos (by omega)]; go_num, rfl⟩
          · go_wp2
            go_meet
            case rel => exact ⟨by rw [HX.out, if_neg (by omega)], rfl⟩
        case rest =>
          obtain ⟨rfl, rfl⟩ := hcut
          go_upto_region 10 with fail
          go_cut [50] (fun c wx => ∃ b : Bool, c = .bool b ∧ Hid (b = true ↔ (p < J ∧ Sp.bt ev (J - 1) = 13)) ∧ wr = wx)
          case first =>
            by_cases hpJ : (p : Int) < (J : Int)
            · have g1 := HSC.out (J - 1) (by omega)
              by_cases h13 : Sp.bt ev (J - 1) = 13
              · have g2 : (Sp.bt ev (J - 1) == 13) = true := by simpa using h13
                go_wp2
                go_meet
                case rel => exact ⟨true, rfl, ⟨fun _ => ⟨by omega, h13⟩, fun _ => rfl⟩, rfl⟩
              · have g2 : (Sp.bt ev (J - 1) == 13) = false := by simpa using h13
                go_wp2
                go_meet
                case rel => exact ⟨false, rfl, ⟨fun h => by simp at h, fun h => absurd h.2 h13⟩, rfl⟩
            · go_wp2
              go_meet
              case rel => exact ⟨false, rfl, ⟨fun h => by simp at h, fun h => by omega⟩, rfl⟩
          case rest =>
            obtain ⟨b, rfl, Hb, rfl⟩ := hcut
            go_upto_if 50 with fail
            go_cut [10] (fun c wx => c = .int .i64 (E : Nat) ∧ wr = wx)
            case first =>
              cases b
              · have hE := HE2.out
                rw [if_neg (fun h => by have := Hb.out.2 h; simp at this)] at hE
                have HE3 : Hid (E = J) := hE
                clear hE
                go_wp2
                go_meet
                case rel => exact ⟨by rw [HE3.out], rfl⟩
              · have h2 := Hb.out.1 rfl
                have hE := HE2.out
                rw [if_pos h2] at hE
                have HE3 : Hid (E = J - 1) := hE
                have hpJ : p < J := h2.1
                clear hE h2
                go_wp2
                go_meet
                case rel => exact ⟨by rw [HE3.out]; congr 1; omega, rfl⟩
            case rest =>
              obtain ⟨rfl, rfl⟩ := hcut
              clear Hb HE2 HNE HAT
              go_upto_block 4 with fail
              go_cut [11] (fun c wx => c = .int .i64 (C : Nat) ∧ wr = wx)
              case first =>
                go_wp2_with fail
                go_loop [11] (fun j => ∃ x : Nat, p ≤ x ∧ x ≤ C ∧ j = .int .i64 (x : Nat)) (fun j => C - (intOf j).toNat)
                case atStart => exact ⟨p, Nat.le_refl _, hC1, rfl⟩
                case round =>
                  obtain ⟨x, hx1, hx2, rfl⟩ := hrel
                  by_cases hxJ : x < C
                  · have g1 := HSC.out x (by omega)
                    have g2 := HCN.out x hx1 hxJ
                    have hxn : (x : Int) < (E : Int) := by omega
                    have hxn2 : (x : Int) < (n : Int) := by omega
                    generalize Sp.bt ev x = y at *
                    go_wp2
                    go_round
                    case rel => exact ⟨x + 1, by omega, by omega, by go_num⟩
                    case measure => simp [intOf]; omega
                  · obtain rfl : x = C := by omega
                    by_cases hJn : x < E
                    · have g1 := HSC.out x (by omega)
                      have g2 := HCA.out hJn
                      have hxn : (x : Int) < (E : Int) := by omega
                      have hxn2 : (x : Int) < (n : Int) := by omega
                      go_wp2
                      go_meet
                      case rel => exact ⟨rfl, rfl⟩
                    · go_wp2
                      go_meet
                      case rel => exact ⟨rfl, rfl⟩
              case rest =>
                obtain ⟨rfl, rfl⟩ := hcut
                clear HCN HCA
                go_upto_region 15 with fail
                go_cut [100] (fun c wx => c = .bool (Sp.isData (Sp.textAt ev p)) ∧ wr = wx)
                case first =>
                  by_cases h4 : C = p + 4
                  · have g0 := HSC.out p (by omega)
                    have g1 := HSC.out (p + 1) (by omega)
                    have g2 := HSC.out (p + 2) (by omega)
                    have g3 := HSC.out (p + 3) (by omega)
                    have n0 : (p : Int) < (n : Int) := by omega
                    have n1 : (p : Int) + 1 < (n : Int) := by omega
                    have n2 : (p : Int) + 2 < (n : Int) := by omega
                    have n3 : (p : Int) + 3 < (n : Int) := by omega
                    have hC4 : ((C : Int) - (p : Int) == 4) = true := by simp; omega
                    have HDD : Hid (Sp.isData (Sp.textAt ev p) = true ↔ (Sp.bt ev p = 100 ∧ Sp.bt ev (p + 1) = 97 ∧ Sp.bt ev (p + 2) = 116 ∧ Sp.bt ev (p + 3) = 97)) := by
                      have q1 := HC.out
                      have q2 := HE.out
                      unfold Hid
                      rw [Sp.isData_iff, Sp.textAt_bt ev p 0 hlt' (by omega), Sp.textAt_bt ev p 1 hlt' (by omega), Sp.textAt_bt ev p 2 hlt' (by omega), Sp.textAt_bt ev p 3 hlt' (by omega)]
                      constructor
                      · exact fun h => h.2
                      · exact fun h => ⟨by omega, h⟩
                    have h4' : C ≤ p + 4 := by omega
                    have h4'' : p + 4 ≤ C := by omega
                    clear h4
                    generalize Sp.bt ev p = x0 at *
                    generalize Sp.bt ev (p + 1) = x1 at *
                    generalize Sp.bt ev (p + 2) = x2 at *
                    generalize Sp.bt ev (p + 3) = x3 at *
                    by_cases k0 : x0 = 100
                    · have b0 : (x0 == 100) = true := by simpa using k0
                      have K0 : Hid (x0 = 100) := k0
                      clear k0
                      by_cases k1 : x1 = 97
                      · have b1 : (x1 == 97) = true := by simpa using k1
                        have K1 : Hid (x1 = 97) := k1
                        clear k1
                        by_cases k2 : x2 = 116
                        · have b2 : (x2 == 116) = true := by simpa using k2
                          have K2 : Hid (x2 = 116) := k2
                          clear k2
                          by_cases k3 : x3 = 97
                          · have b3 : (x3 == 97) = true := by simpa using k3
                            have K3 : Hid (x3 = 97) := k3
                            clear k3
                            go_wp2
                            go_meet
                            case rel => exact ⟨by rw [HDD.out.2 ⟨K0.out, K1.out, K2.out, K3.out⟩], rfl⟩
                          · have b3 : (x3 == 97) = false := by simpa using k3
                            have K3 : Hid (¬ x3 = 97) := k3
                            clear k3
                            go_wp2
                            go_meet
                            case rel => exact ⟨by rw [Bool.eq_false_iff.2 (fun h => K3.out (HDD.out.1 h).2.2.2)], rfl⟩
                        · have b2 : (x2 == 116) = false := by simpa using k2
                          have K2 : Hid (¬ x2 = 116) := k2
                          clear k2
                          go_wp2
                          go_meet
                          case rel => exact ⟨by rw [Bool.eq_false_iff.2 (fun h => K2.out (HDD.out.1 h).2.2.1)], rfl⟩
                      · have b1 : (x1 == 97) = false := by simpa using k1
                        have K1 : Hid (¬ x1 = 97) := k1
                        clear k1
                        go_wp2
                        go_meet
                        case rel => exact ⟨by rw [Bool.eq_false_iff.2 (fun h => K1.out (HDD.out.1 h).2.1)], rfl⟩
                    · have b0 : (x0 == 100) = false := by simpa using k0
                      have K0 : Hid (¬ x0 = 100) := k0
                      clear k0
                      go_wp2
                      go_meet
                      case rel => exact ⟨by rw [Bool.eq_false_iff.2 (fun h => K0.out (HDD.out.1 h).1)], rfl⟩
                  · have hC4 : ((C : Int) - (p : Int) == 4) = false := by simp; omega
                    have K4 : Hid (Sp.isData (Sp.textAt ev p) = false) := by
                      have q1 := HC.out
                      exact Bool.eq_false_iff.2 (fun h => by have := (Sp.isData_len _ h).2; omega)
                    clear h4
                    go_wp2
                    go_meet
                    case rel => exact ⟨by rw [K4.out], rfl⟩
                case rest =>
                  obtain ⟨rfl, rfl⟩ := hcut
                  have hstep := Sp.at_step hA hlt'
                  have hpl := Sp.textAt_le ev p (by omega)
                  cases hd : Sp.isData (Sp.textAt ev p)
                  · have hst : Sp.stepL (Sp.textAt ev p) p acc = acc := by unfold Sp.stepL; rw [if_neg (by rw [hd]; simp)]
                    rw [hst] at hstep
                    have HST : Hid (Sp.At ev (p + Sp.lineLen (ev.drop p)) acc) := hstep
                    clear hst hd hstep
                    go_wp2
                    go_roundw
                    case rel => exact ⟨p + Sp.lineLen (ev.drop p), acc, by omega, HST.out, rfl, rfl, rfl, rfl, rfl, hR, ⟨_, _, _, rfl⟩, hB, hS⟩
                    case measure => have := Sp.lineLen_pos (ev.drop p) (by simp; omega); simp [intOf]; omega
                  · have hvl := Sp.valAt_le (Sp.textAt ev p)
                    have h4 := Sp.isData_len _ hd
                    go_upto_if 104 with fail
                    go_cut [12, 13] (fun v c wx => v = .int .i64 ((p + Sp.valAt (Sp.textAt ev p) : Nat) : Int) ∧ c = .bool (Sp.hasCol (Sp.textAt ev p)) ∧ wr = wx)
                    case first =>
                      have q1 := HC.out
                      have q2 := HE.out
                      by_cases hCE : (C : Int) < (E : Int)
                      · have hcl : Sp.colon (Sp.textAt ev p) < (Sp.textAt ev p).length := by omega
                        have HV := Sp.valAt_col (Sp.textAt ev p) hcl
                        have HHC : Hid (Sp.hasCol (Sp.textAt ev p) = true) := by unfold Hid Sp.hasCol; simpa using hcl
                        by_cases hC1E : (C : Int) + 1 < (E : Int)
                        · have g1 := HSC.out (C + 1) (by omega)
                          have n1 : (C : Int) + 1 < (n : Int) := by omega
                          have e1 := Sp.textAt_bt ev p (Sp.colon (Sp.textAt ev p) + 1) hlt' (by omega)
                          rw [← Nat.add_assoc, ← q1] at e1
                          by_cases h32 : Sp.bt ev (C + 1) = 32
                          · have b1 : (Sp.bt ev (C + 1) == 32) = true := by simpa using h32
                            rw [if_pos ⟨by omega, by rw [e1]; exact h32⟩] at HV
                            have HV2 : Hid (p + Sp.valAt (Sp.textAt ev p) = C + 2) := by unfold Hid; omega
                            clear HV e1 h32 q1 q2 hcl hvl h4 hd
                            go_wp2
                            go_meet
                            case rel => exact ⟨by rw [HV2.out]; go_num, by rw [HHC.out], rfl⟩
                          · have b1 : (Sp.bt ev (C + 1) == 32) = false := by simpa using h32
                            rw [if_neg (fun h => h32 (by rw [← e1]; exact h.2))] at HV
                            have HV2 : Hid (p + Sp.valAt (Sp.textAt ev p) = C + 1) := by unfold Hid; omega
                            clear HV e1 h32 q1 q2 hcl hvl h4 hd
                            go_wp2
                            go_meet
                            case rel => exact ⟨by rw [HV2.out]; go_num, by rw [HHC.out], rfl⟩
                        · rw [if_neg (fun h => by have := h.1; omega)] at HV
                          have HV2 : Hid (p + Sp.valAt (Sp.textAt ev p) = C + 1) := by unfold Hid; omega
                          clear HV q1 q2 hcl hvl h4 hd
                          go_wp2
                          go_meet
                          case rel => exact ⟨by rw [HV2.out]; go_num, by rw [HHC.out], rfl⟩
                      · have hcl : ¬ Sp.colon (Sp.textAt ev p) < (Sp.textAt ev p).length := by omega
                        have HV := Sp.valAt_nocol (Sp.textAt ev p) hcl
                        have HHC : Hid (Sp.hasCol (Sp.textAt ev p) = false) := by unfold Hid Sp.hasCol; simpa using hcl
                        have HV2 : Hid (p + Sp.valAt (Sp.textAt ev p) = E) := by unfold Hid; omega
                        clear HV q1 q2 hcl hvl h4 hd
                        go_wp2
                        go_meet
                        case rel => exact ⟨by rw [HV2.out], by rw [HHC.out], rfl⟩
                    case rest =>
                      obtain ⟨rfl, rfl, rfl⟩ := hcut
                      have hjl := hok.len
                      have hval : (Sp.valOf (Sp.textAt ev p)).length = (Sp.textAt ev p).length - Sp.valAt (Sp.textAt ev p) := by unfold Sp.valOf; rw [List.length_drop]
                      have q2 := HE.out
                      obtain ⟨V, HVd⟩ : ∃ V, Hid (V = p + Sp.valAt (Sp.textAt ev p)) := ⟨_, rfl⟩
                      have hVE : V ≤ E := by have := HVd.out; omega
                      have hpV : p ≤ V := by have := HVd.out; omega
                      have hEV : E - V = (Sp.valOf (Sp.textAt ev p)).length := by have := HVd.out; omega
                      have HEV : Hid (E - V = (Sp.valOf (Sp.textAt ev p)).length) := hEV
                      have hsegV : Seg wr B (o + V) (Sp.valOf (Sp.textAt ev p)) := by
                        have s1 : Seg wr B (o + p) (Sp.textAt ev p) := (hS.sub p _).take _
                        have := s1.sub (Sp.valAt (Sp.textAt ev p)) ((Sp.textAt ev p).drop (Sp.valAt (Sp.textAt ev p))).length
                        rw [List.take_length, Nat.add_assoc, ← HVd.out] at this
                        exact this
                      rw [← HVd.out]
                      have c1 : (0 : Int) ≤ (V : Int) := by omega
                      have c2 : (V : Int) ≤ (E : Int) := by omega
                      have c3 : (E : Int) ≤ (cap : Int) := by omega
                      have hbs := hB.size
                      by_cases hf0 : acc.fields = 0
                      · have hst : Sp.stepL (Sp.textAt ev p) p acc = ⟨1, p + Sp.valAt (Sp.textAt ev p), p + (Sp.textAt ev p).length, Sp.hasCol (Sp.textAt ev p), acc.joined ++ Sp.valOf (Sp.textAt ev p)⟩ := by unfold Sp.stepL; rw [if_pos hd, if_pos hf0]
                        rw [hst, ← HVd.out, ← q2] at hstep
                        have HST : Hid (Sp.At ev (p + Sp.lineLen (ev.drop p)) ⟨1, V, E, Sp.hasCol (Sp.textAt ev p), acc.joined ++ Sp.valOf (Sp.textAt ev p)⟩) := hstep
                        have hfb : ((acc.fields : Int) == 0) = true := by simpa using hf0
                        have HF0 : Hid (acc.fields = 0) := hf0
                        clear hst hstep hf0 hd q2 hval hEV hvl h4
                        by_cases hVc : V = cap
                        · obtain rfl : E = V := by omega
                          have hseg2 : Seg wr B o (Sp.valOf (Sp.textAt ev p)) := fun i hi => by have := HEV.out; omega
                          subst hVc
                          go_wp2_with (at_builtin; refine wpList_app _ rfl _ _ rfl w.heap.size _ acc.joined (Sp.valOf (Sp.textAt ev p)) rfl hR B _ _ _ (by have := HEV.out; omega) rfl hseg2 (by omega) (by omega) ?_; intro v1 w1 ho1 hg1 hsl1; obtain ⟨x1, n1, c1', rfl⟩ := hsl1)
                          go_roundw
                          case rel => exact ⟨p + Sp.lineLen (ev.drop p), _, by omega, HST.out, by have := HF0.out; go_num, rfl, rfl, rfl, rfl, ho1, ⟨_, _, _, rfl⟩, hB.grown hg1 hbs (fun k e => own_ge hR k e), hS.same (hg1.block B (by omega) (fun e => by have := own_ge hR _ e.symm; omega))⟩
                          case measure => have := Sp.lineLen_pos (ev.drop p) (by simp; omega); simp [intOf]; omega
                        · go_wp2_with (at_builtin; go_must (refine wpList_app _ rfl _ _ rfl w.heap.size _ acc.joined (Sp.valOf (Sp.textAt ev p)) rfl hR B _ _ _ HEV.out rfl hsegV (by omega) (by omega) ?_); intro v1 w1 ho1 hg1 hsl1; obtain ⟨x1, n1, c1', rfl⟩ := hsl1)
                          go_roundw
                          case rel => exact ⟨p + Sp.lineLen (ev.drop p), _, by omega, HST.out, by have := HF0.out; go_num, rfl, rfl, rfl, rfl, ho1, ⟨_, _, _, rfl⟩, hB.grown hg1 hbs (fun k e => own_ge hR k e), hS.same (hg1.block B (by omega) (fun e => by have := own_ge hR _ e.symm; omega))⟩
                          case measure => have := Sp.lineLen_pos (ev.drop p) (by simp; omega); simp [intOf]; omega
                      · have hst : Sp.stepL (Sp.textAt ev p) p acc = ⟨acc.fields + 1, acc.fs, acc.fe, acc.col, (acc.joined ++ [10]) ++ Sp.valOf (Sp.textAt ev p)⟩ := by unfold Sp.stepL; rw [if_pos hd, if_neg hf0]
                        rw [hst] at hstep
                        have HST : Hid (Sp.At ev (p + Sp.lineLen (ev.drop p)) ⟨acc.fields + 1, acc.fs, acc.fe, acc.col, (acc.joined ++ [10]) ++ Sp.valOf (Sp.textAt ev p)⟩) := hstep
                        have hfb : ((acc.fields : Int) == 0) = false := beq_eq_false_iff_ne.2 (by omega)
                        have hf1 : 1 ≤ acc.fields := by omega
                        have htmp : Seg (wr.alloc (.cells #[.int .u8 10] 5)) wr.heap.size 0 [10] := by
                          intro i hi
                          obtain rfl : i = 0 := by simp at hi; omega
                          exact (Boxed.new wr 5 (.int .u8 10)).cell
                        have tok : True := trivial
                        clear hst hstep hf0 hd q2 hval hEV hvl h4
                        by_cases hVc : V = cap
                        · obtain rfl : E = V := by omega
                          have hz0 : (Sp.valOf (Sp.textAt ev p)).length = 0 := by have := HEV.out; omega
                          have HZ0 : Hid ((Sp.valOf (Sp.textAt ev p)).length = 0) := hz0
                          clear hz0
                          subst hVc
                          go_wp2_with (first
                            | (at_builtin; have _t := tok; refine wpList_app _ rfl _ _ rfl w.heap.size _ acc.joined [10] rfl (hR.alloc _) wr.heap.size 0 1 1 rfl rfl htmp (by omega) (by simp; omega) ?_; intro v1 w1 ho1 hg1 hsl1; clear tok; obtain ⟨x1, n1, c1', rfl⟩ := hsl1)
                            | (at_builtin; refine wpList_app _ rfl _ _ rfl w.heap.size _ (acc.joined ++ [10]) (Sp.valOf (Sp.textAt ev p)) rfl ho1 B _ _ _ (by have := HZ0.out; omega) rfl (fun i hi => by have := HZ0.out; omega) (by simp; omega) (by have := hg1.size; simp at this; omega) ?_; intro v2 w2 ho2 hg2 hsl2; obtain ⟨x2, n2, c2', rfl⟩ := hsl2))
                          have hz1 := hg1.size
                          rw [World.size_alloc] at hz1
                          have hnb1 : some B ≠ (Value.slice jx jn jc).ownBlock := fun e => by have := own_ge hR _ e.symm; omega
                          have hnb2 : some B ≠ (Value.slice x1 n1 c1').ownBlock := fun e => by have := own_ge ho1 _ e.symm; omega
                          go_roundw
                          case rel => exact ⟨p + Sp.lineLen (ev.drop p), _, by omega, HST.out, by go_num, rfl, rfl, rfl, rfl, ho2, ⟨_, _, _, rfl⟩, ((hB.alloc hbs _).grown hg1 (by simp; omega) (fun k e => own_ge hR k e)).grown hg2 (by omega) (fun k e => own_ge ho1 k e), ((hS.alloc _).same (hg1.block B (by simp; omega) hnb1)).same (hg2.block B (by omega) hnb2)⟩
                          case measure => have := Sp.lineLen_pos (ev.drop p) (by simp; omega); simp [intOf]; omega
                        · go_wp2_with (first
                            | (at_builtin; have _t := tok; refine wpList_app _ rfl _ _ rfl w.heap.size _ acc.joined [10] rfl (hR.alloc _) wr.heap.size 0 1 1 rfl rfl htmp (by omega) (by simp; omega) ?_; intro v1 w1 ho1 hg1 hsl1; clear tok; obtain ⟨x1, n1, c1', rfl⟩ := hsl1; have hsegV1 : Seg w1 B (o + V) (Sp.valOf (Sp.textAt ev p)) := (hsegV.alloc _).same (hg1.block B (by simp; omega) (fun e => by have := own_ge hR _ e.symm; omega)))
                            | (at_builtin; refine wpList_app _ rfl _ _ rfl w.heap.size _ (acc.joined ++ [10]) (Sp.valOf (Sp.textAt ev p)) rfl ho1 B _ _ _ HEV.out rfl hsegV1 (by simp; omega) (by have := hg1.size; simp at this; omega) ?_; intro v2 w2 ho2 hg2 hsl2; obtain ⟨x2, n2, c2', rfl⟩ := hsl2))
                          have hz1 := hg1.size
                          rw [World.size_alloc] at hz1
                          have hnb1 : some B ≠ (Value.slice jx jn jc).ownBlock := fun e => by have := own_ge hR _ e.symm; omega
                          have hnb2 : some B ≠ (Value.slice x1 n1 c1').ownBlock := fun e => by have := own_ge ho1 _ e.symm; omega
                          go_roundw
                          case rel => exact ⟨p + Sp.lineLen (ev.drop p), _, by omega, HST.out, by go_num, rfl, rfl, rfl, rfl, ho2, ⟨_, _, _, rfl⟩, ((hB.alloc hbs _).grown hg1 (by simp; omega) (fun k e => own_ge hR k e)).grown hg2 (by omega) (fun k e => own_ge ho1 k e), ((hS.alloc _).same (hg1.block B (by simp; omega) hnb1)).same (hg2.block B (by omega) hnb2)⟩
                          case measure => have := Sp.lineLen_pos (ev.drop p) (by simp; omega); simp [intOf]; omega
    · obtain rfl : p = n := by omega
      have HA2 : Hid (Sp.Fin ev acc) := by rw [Hn.out] at hA; exact hA
      go_wp2
      exact bodyPost_ret (v := .tuple #[.int .i64 (acc.fields : Nat), .int .i64 (acc.fs : Nat), .int .i64 (acc.fe : Nat), .bool acc.col, .slice jx jn jc]) (by simp [results, Try.results10, go_sem]) rfl ⟨⟨acc, _, HA2.out, rfl, hR⟩, hB⟩

end Go.Proofs.Qxb6605680a
