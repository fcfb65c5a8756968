/-
  Seat b6605439a: THE WALK OF THE LAW FnDecodePlainReadsBackWhatADeviceWrites (4).
-/
import Derived.Test.Qxb6605439aBody
import Derived.Lib.SliceRun
import Derived.Laws.Cover3
import Derived.Deep.DeepCutAuto
import Derived.Deep.CutBlock
namespace Go.Proofs.Qxb6605439a
open Go.RowKit

theorem its_len (ws : List UInt8) (hw : ws.length ≤ 65536) : ∀ (As : List (List UInt8)) (b : Bool), (∀ A ∈ As, A.length ≤ 1048576) → (its ws b As).length ≤ As.length * 1179652 + 196610
  | [], b, _ => by rw [its_nil]; simp; omega
  | A :: As, b, h => by
    have ih := its_len ws hw As false (fun A hA => h A (List.mem_cons_of_mem _ hA))
    have hA := h A List.mem_cons_self
    cases b
    · show (ws ++ (44 :: (ws ++ (34 :: (A ++ (34 :: its ws false As)))))).length ≤ _
      simp only [List.length_append, List.length_cons]; omega
    · show (ws ++ (34 :: (A ++ (34 :: its ws false As)))).length ≤ _
      simp only [List.length_append, List.length_cons]; omega

theorem obj_len (ws : List UInt8) (As : List (List UInt8)) (hw : ws.length ≤ 65536) (hn : As.length ≤ 65536) (h : ∀ A ∈ As, A.length ≤ 1048576) : (obj ws As).length ≤ 1099511627776 := by
  have := its_len ws hw As true h
  unfold obj
  simp only [List.length_append, List.length_cons, List.length_nil]
  omega

theorem obj_pos (ws : List UInt8) (As : List (List UInt8)) : 0 < (obj ws As).length := by
  unfold obj
  simp only [List.length_append, List.length_cons]
  omega

theorem strs_cell {W : World} {base g N c : Nat} {ss : List ByteArray} {As : List (List UInt8)} (hA : As = ss.map (fun S => S.data.toList)) (h : W.ownsRow base 9 1 (.slice (some ⟨g, 0, none⟩) N c) N (strsOf As)) :
    ∀ i (hi : i < ss.length), W.cell? ⟨g, i, none⟩ = some (.string ss[i]) := by
  intro i hi
  have hc := h.cells (g := g) rfl i (.string ss[i]) (by
    rw [hA]
    simp only [strsOf, List.map_map, List.getElem?_map, List.getElem?_eq_getElem hi, Option.map_some, Function.comp])
  rw [WideShapes.add_plain, Nat.zero_add] at hc
  exact hc

theorem some_zero {W : World} {base N c : Nat} {x : Addr} {xs : List Value} (h : W.ownsRow base 9 1 (.slice (some x) N c) N xs) : ∃ g, x = ⟨g, 0, none⟩ := by
  rcases h.2 with ⟨h1, _⟩ | ⟨g, cap, cur, h1, _⟩
  · injection h1 with h1; cases h1
  · injection h1 with h1 _ _
    injection h1 with h1
    exact ⟨g, h1⟩

theorem cell_of {w w' : World} {a : Addr} (h : ∀ b : Nat, w'.heap[b]? = w.heap[b]?) : w'.cell? a = w.cell? a := World.cell?_of_block (w := w) (h a.block)

theorem all_bt {T : ByteArray} {p : UInt8 → Prop} (h : ∀ x, x < T.size → p (bt T x)) : ∀ c ∈ T.data.toList, p c := by
  intro c hc
  obtain ⟨i, hi, rfl⟩ := List.getElem_of_mem hc
  have hi' : i < T.size := by simpa using hi
  have := h i hi'
  unfold bt at this
  rwa [List.getD, List.getElem?_eq_getElem hi] at this

theorem cell_at {w1 u : World} {W Z : List UInt8} {v : Value} {b k : Nat} {S : ByteArray} (h : w1.cell? ⟨b, k, none⟩ = some (.string S)) (hb : b < w1.heap.size) (hB : Bd w1 W Z v u) : u.cell? ⟨b, k, none⟩ = some (.string S) := by
  obtain ⟨R, _, _, hb2⟩ := hB
  exact (hb2.cell hb).trans h

theorem neqnil (w : World) (a : Option Addr) (n c : Nat) : (binOp .neq 24 (.slice a n c) (.slice none 0 0)).run Try.prog w = .ok (.bool (!a.isNone)) w := run_neq_slice_nil w 24 9 a n c Try.underlying24
theorem eqnil (w : World) (a : Option Addr) (n c : Nat) : (binOp .eql 24 (.slice a n c) (.slice none 0 0)).run Try.prog w = .ok (.bool a.isNone) w := Lib.run_eql_slice_nil w 24 9 a n c 0 0 Try.underlying24

set_option maxRecDepth 100000 in
set_option maxHeartbeats 4000000 in
theorem law_near (a : Option Addr) (N c B o : Nat) (ss : List ByteArray) (ws : ByteArray) (w : World) (hN : Hid (N = ss.length)) (ha : 0 < N → a = some ⟨B, o, none⟩)
    (hcell : ∀ i (hi : i < ss.length), w.cell? ⟨B, o + i, none⟩ = some (.string ss[i])) (h1 : (N : Int) ≤ 65536) (h2 : (ws.size : Int) ≤ 65536) (h3 : (ws.size : Int) + 16 * (N : Int) ≤ 1048576) :
    Calls Try.prog 4 #[.slice a N c, .string ws] w fun e w' => e = .returned (.bool true) ∧ Below w.heap.size w w' := by
  have HZ : Hid (Calls Try.prog 10 #[.slice a N c, .string ws] w fun e w' => BoolIf True e ∧ w' = w) := zz10_any a N c B o ss ws w hN (by omega) ha hcell
  have HC : Hid (∀ i (hi : i < ss.length), w.cell? ⟨B, o + i, none⟩ = some (.string ss[i])) := hcell
  clear hcell
  go_enter Try.func4, Try.ntmps4
  go_wp2_with fail
  refine HZ.out.mono ?_
  rintro r w' ⟨⟨b, rfl, _⟩, rfl⟩
  cases b with
  | false =>
    go_wp2
    go_ret
    exact ⟨rfl, Below.refl _ _⟩
  | true =>
    clear HZ
    go_wp2_with fail
    go_loop [5, 6] (fun q i => ∃ (k z : Nat), k ≤ N ∧ i = .int .i64 (k : Nat) ∧ q = .int .i64 (z : Nat) ∧ z ≤ 1048576 ∧ Hid (∀ x (hx : x < ss.length), x < k → ss[x].size ≤ 1048576)) (fun _ i => N - (intOf i).toNat)
    case atStart => exact ⟨0, ws.size + 16 * N, Nat.zero_le _, rfl, by go_num, by omega, fun x _ hx => by omega⟩
    case round =>
      obtain ⟨k, z, hk, rfl, rfl, hz, HS⟩ := hrel
      by_cases hlt : (k : Int) < (N : Int)
      · obtain rfl := ha (by omega)
        have hkl : k < ss.length := by have := hN.out; omega
        have g1 := HC.out k hkl
        obtain ⟨S, hS⟩ : ∃ S, S = ss[k] := ⟨_, rfl⟩
        rw [← hS] at g1
        by_cases hs : (S.size : Int) ≤ 1048576
        · have HS2 : Hid (∀ x (hx : x < ss.length), x < k + 1 → ss[x].size ≤ 1048576) := by
            intro x hx h
            by_cases hxk : x < k
            · exact HS.out x hx hxk
            · obtain rfl : x = k := by omega
              rw [← hS]; omega
          clear hS hkl HS
          go_wp2
          · go_ret
            exact ⟨rfl, Below.refl _ _⟩
          · go_round
            case rel => exact ⟨k + 1, z + S.size, by omega, by go_num, by go_num, by omega, HS2⟩
            case measure => simp [intOf]; omega
        · clear hS hkl HS
          go_wp2
          go_ret
          exact ⟨rfl, Below.refl _ _⟩
      · have HSZ : Hid (∀ x (hx : x < ss.length), ss[x].size ≤ 1048576) := fun x hx => HS.out x hx (by have := hN.out; omega)
        obtain ⟨M, hM⟩ : ∃ M : Nat, M = ws.size * (3 * N + 8) := ⟨_, rfl⟩
        have hM1 : (M : Int) ≤ 12885426176 := by
          have : M ≤ 65536 * 196616 := by rw [hM]; exact Nat.mul_le_mul (by omega) (by omega)
          omega
        have hM2 : (ws.size : Int) * (3 * (N : Int) + 8) = (M : Int) := by rw [hM]; push_cast; rfl
        clear hM HS
        have hwm : wrap64 ((ws.size : Int) * (3 * (N : Int) + 8)) = (M : Int) := by rw [hM2]; unfold wrap64; omega
        obtain ⟨U, HU⟩ : ∃ U : Nat, Hid (U = z + M + 32) := ⟨_, rfl⟩
        have hU1 : (z : Int) + (M : Int) + 32 = (U : Int) := by have := HU.out; omega
        have hU2 : (U : Int) ≤ 12886474784 := by omega
        clear hM2
        by_cases hU : (U : Int) ≤ 16777216
        · go_upto_region 17 with fail
          go_upto_region 18 with fail
          clear hwm hU1 HU
          go_wp2_with fail
          clear hlt hk
          go_loop [9] (fun i => ∃ k : Nat, k ≤ ws.size ∧ i = .int .i64 (k : Nat) ∧ Hid (∀ x, x < k → sp (bt ws x))) (fun i => ws.size - (intOf i).toNat)
          case atStart => exact ⟨0, Nat.zero_le _, rfl, fun x hx => by omega⟩
          case round =>
            obtain ⟨j, hj, rfl, HJ⟩ := hrel
            by_cases hjl : j < ws.size
            · have e := bt_eq ws j hjl
              have HSp : Hid (∀ W, Calls Try.prog 11 #[.int .u8 (ws[j].toNat : Int)] W fun e w' => BoolIf (sp (bt ws j)) e ∧ w' = W) := by rw [← e]; exact fun W => space_any _ W
              clear e
              go_wp2_with fail
              refine (HSp.out _).mono ?_
              rintro r w2 ⟨⟨b, rfl, hb⟩, rfl⟩
              cases b with
              | false =>
                go_wp2
                go_ret
                exact ⟨rfl, Below.refl _ _⟩
              | true =>
                have HJ2 : Hid (∀ x, x < j + 1 → sp (bt ws x)) := by
                  intro x hx
                  by_cases hxj : x < j
                  · exact HJ.out x hxj
                  · obtain rfl : x = j := by omega
                    exact hb rfl
                clear HSp hb HJ
                go_wp2
                go_round
                case rel => exact ⟨j + 1, by omega, by go_num, HJ2⟩
                case measure => simp [intOf]; omega
            · have HWS : Hid (∀ x, x < ws.size → sp (bt ws x)) := fun x hx => HJ.out x (by omega)
              clear HJ
              go_wp2_with fail
              clear hj hjl
              go_loop [10] (fun i => ∃ k : Nat, k ≤ N ∧ i = .int .i64 (k : Nat) ∧ Hid (∀ x (hx : x < ss.length), x < k → ∀ y, y < ss[x].size → pr (bt ss[x] y))) (fun i => N - (intOf i).toNat)
              case atStart => exact ⟨0, Nat.zero_le _, rfl, fun x _ hx => by omega⟩
              case round =>
                obtain ⟨i, hi, rfl, HI⟩ := hrel
                by_cases hil : (i : Int) < (N : Int)
                · obtain rfl := ha (by omega)
                  have hkl : i < ss.length := by have := hN.out; omega
                  have g1 := HC.out i hkl
                  obtain ⟨S, hS⟩ : ∃ S, S = ss[i] := ⟨_, rfl⟩
                  rw [← hS] at g1
                  have hSs : (S.size : Int) ≤ 1048576 := by have := HSZ.out i hkl; rw [hS]; omega
                  have HI2 : Hid ((∀ y, y < S.size → pr (bt S y)) → ∀ x (hx : x < ss.length), x < i + 1 → ∀ y, y < ss[x].size → pr (bt ss[x] y)) := by
                    intro hall x hx h
                    by_cases hxi : x < i
                    · exact HI.out x hx hxi
                    · obtain rfl : x = i := by omega
                      rw [← hS]; exact hall
                  clear hS HI hkl
                  go_wp2_with fail
                  go_loop [11] (fun i => ∃ k : Nat, k ≤ S.size ∧ i = .int .i64 (k : Nat) ∧ Hid (∀ x, x < k → pr (bt S x))) (fun i => S.size - (intOf i).toNat)
                  case atStart => exact ⟨0, Nat.zero_le _, rfl, fun x hx => by omega⟩
                  case round =>
                    obtain ⟨j, hj, rfl, HJ⟩ := hrel
                    by_cases hjl : j < S.size
                    · have e := bt_eq S j hjl
                      have HPr : Hid (∀ W, Calls Try.prog 12 #[.int .u8 (S[j].toNat : Int)] W fun e w' => BoolIf (32 ≤ S[j].toNat ∧ S[j].toNat ≤ 126 ∧ S[j].toNat ≠ 92) e ∧ w' = W) := fun W => print_any _ W
                      have HE : Hid (S[j] = bt S j) := e
                      clear e
                      go_wp2_with fail
                      refine (HPr.out _).mono ?_
                      rintro r w2 ⟨⟨b, rfl, hb⟩, rfl⟩
                      cases b with
                      | false =>
                        go_wp2
                        go_ret
                        exact ⟨rfl, Below.refl _ _⟩
                      | true =>
                        by_cases h34 : S[j].toNat = 34
                        · have e34 : ((S[j].toNat : Int) == 34) = true := by rw [beq_iff_eq]; omega
                          clear HPr hb HJ
                          go_wp2
                          go_ret
                          exact ⟨rfl, Below.refl _ _⟩
                        · have e34 : ((S[j].toNat : Int) == 34) = false := by rw [beq_eq_false_iff_ne]; omega
                          have HJ2 : Hid (∀ x, x < j + 1 → pr (bt S x)) := by
                            intro x hx
                            by_cases hxj : x < j
                            · exact HJ.out x hxj
                            · obtain rfl : x = j := by omega
                              have hb' := hb rfl
                              rw [← HE.out]
                              exact ⟨hb'.1, hb'.2.1, hb'.2.2, h34⟩
                          clear HPr hb HJ h34 HE
                          go_wp2
                          go_round
                          case rel => exact ⟨j + 1, by omega, by go_num, HJ2⟩
                          case measure => simp [intOf]; omega
                    · have HI3 := HI2.out (fun y hy => HJ.out y (by omega))
                      have HI4 : Hid (∀ x (hx : x < ss.length), x < i + 1 → ∀ y, y < ss[x].size → pr (bt ss[x] y)) := HI3
                      clear HI2 HI3 HJ
                      go_wp2
                      go_round
                      case rel => exact ⟨i + 1, by omega, by go_num, HI4⟩
                      case measure => simp [intOf]; omega
                · have HPR : Hid (∀ x (hx : x < ss.length), ∀ y, y < ss[x].size → pr (bt ss[x] y)) := fun x hx => HI.out x hx (by have := hN.out; omega)
                  clear HI
                  go_upto_region 34 with fail
                  obtain ⟨As, HAs⟩ : ∃ As : List (List UInt8), Hid (As = ss.map (fun S => S.data.toList)) := ⟨_, rfl⟩
                  have HAl : Hid (As.length = N) := by unfold Hid; rw [HAs.out, List.length_map]; exact hN.out.symm
                  have HAp : Hid (∀ A ∈ As, ∀ c ∈ A, pr c) := by
                    intro A hA
                    rw [HAs.out] at hA
                    obtain ⟨S, hS, rfl⟩ := List.mem_map.1 hA
                    obtain ⟨i, hi, rfl⟩ := List.getElem_of_mem hS
                    exact all_bt (HPR.out i hi)
                  have HWp : Hid (∀ c ∈ ws.data.toList, sp c) := all_bt HWS.out
                  obtain ⟨W, HWe⟩ : ∃ W, Hid (W = obj ws.data.toList As) := ⟨_, rfl⟩
                  have hWl : W.length ≤ 1099511627776 := by
                    rw [HWe.out]
                    refine obj_len _ _ (by simp; omega) (by rw [HAl.out]; omega) (fun A hA => ?_)
                    rw [HAs.out] at hA
                    obtain ⟨S, hS, rfl⟩ := List.mem_map.1 hA
                    obtain ⟨i, hi, rfl⟩ := List.getElem_of_mem hS
                    have := HSZ.out i hi
                    simpa using this
                  clear HWS HPR HSZ
                  have hnn := neqnil
                  have hen := eqnil
                  rcases a with _ | x
                  · have HN0 : Hid (N = 0) := by
                      by_cases h : 0 < N
                      · exact absurd (ha h) (by simp)
                      · unfold Hid; omega
                    obtain ⟨w1, hw1⟩ : ∃ w1, w1 = w' := ⟨_, rfl⟩
                    subst hw1
                    go_upto_region 38 with fail
                    obtain ⟨C5, hC5, hmk5⟩ := make_bytes w1 U (by omega)
                    have HBd : Hid (Bd w1 W (obj ws.data.toList As) (.slice (some ⟨w1.heap.size, 0, none⟩) 0 U) (w1.alloc (.cells C5 5))) := by
                      have h := bd_start w1 C5 U hC5 (by omega) W
                      have e := HWe.out
                      unfold Hid
                      rw [e] at h ⊢
                      exact h
                    clear hC5 hnn hi hil
                    go_upto_region 49 with (first | (at_builtin; refine bd_str _ w1 rfl _ _ rfl W _ _ rfl _ rfl hWl HBd.out ?_; clear HBd; intro x1 n1 c1 u HBd) | (at_builtin; refine bd_one _ w1 _ _ (by rfl) rfl _ _ rfl W _ _ rfl rfl hWl HBd.out ?_; clear HBd; intro x1 n1 c1 u HBd))
                    go_wp2_with fail
                    clear hmk5
                    go_loopw [14, 15] (fun v i wr => ∃ (k : Nat) (x : Option Addr) (n c : Nat), k ≤ N ∧ i = .int .i64 (k : Nat) ∧ v = .slice x n c ∧ Hid (Bd w1 W (its ws.data.toList (k == 0) (As.drop k)) (.slice x n c) wr)) (fun _ i _ => N - (intOf i).toNat)
                    case atStart => exact ⟨0, x1, n1, c1, Nat.zero_le _, rfl, rfl, HBd⟩
                    case round =>
                      clear HBd
                      obtain ⟨k2, x2, n2, c2, hk2, rfl, rfl, HB2⟩ := hrel
                      have hlt : ¬ (k2 : Int) < (N : Int) := by have := HN0.out; omega
                      have HBd : Hid (Bd w1 W (ws.data.toList ++ (93 :: (ws.data.toList ++ (125 :: (ws.data.toList ++ []))))) (.slice x2 n2 c2) wr) := by
                        have h := HB2.out
                        rw [List.drop_of_length_le (by rw [HAl.out]; omega), its_nil] at h
                        rw [List.append_nil]
                        exact h
                      clear HB2
                      go_upto_region 64 with (first | (at_builtin; refine bd_str _ w1 rfl _ _ rfl W _ _ rfl _ rfl hWl HBd.out ?_; clear HBd; intro x1 n1 c1 u HBd) | (at_builtin; refine bd_one _ w1 _ _ (by rfl) rfl _ _ rfl W _ _ rfl rfl hWl HBd.out ?_; clear HBd; intro x1 n1 c1 u HBd))
                      obtain ⟨g, rfl, hn1, hcl, hbu⟩ := bd_end HBd.out (by rw [HWe.out]; exact obj_pos _ _)
                      have H8 := zz8_any g n1 c1 ws.data.toList As u (by rw [hn1, HWe.out]) (by rw [hn1]; exact hWl) (by rw [HAl.out]; omega) (by rw [HWe.out] at hcl; exact hcl) HWp.out HAp.out
                      rw [HAl.out] at H8
                      have HC8 : Hid (Calls Try.prog 8 #[.slice (some ⟨g, 0, none⟩) n1 c1] u _) := H8
                      have HBu : Hid (Below w1.heap.size w1 u) := hbu
                      have hzu := hbu.size
                      clear HBd H8 hcl hn1 hbu
                      go_wp2_with fail
                      refine HC8.out.mono ?_
                      rintro r w5 ⟨⟨x5, c5, rfl, ho5⟩, hb5⟩
                      have HB5 : Hid (Below w1.heap.size w1 (w5.alloc (.cells #[.slice (some x5) N c5] 26))) :=
                        ((HBu.out.trans (hb5.mono (by omega))).alloc (by have := hb5.size; omega) _)
                      have b0 := (Boxed.new w5 26 (.slice (some x5) N c5)).cell
                      clear ho5 hb5 HC8 HBu
                      go_wp2_with fail
                      clear b0
                      go_loopw [18] (fun i wr => ∃ k : Nat, k ≤ N ∧ i = .int .i64 (k : Nat) ∧ Hid (Below w1.heap.size w1 wr)) (fun i _ => N - (intOf i).toNat)
                      case atStart => exact ⟨0, Nat.zero_le _, rfl, HB5.out⟩
                      case round =>
                        obtain ⟨k3, hk3, rfl, HR⟩ := hrel
                        have hlt3 : ¬ (k3 : Int) < (N : Int) := by have := HN0.out; omega
                        go_wp2_with fail
                        go_ret
                        exact ⟨rfl, HR.out⟩
                  · obtain ⟨C, hC, hmk⟩ := make_list w' N (by omega)
                    obtain ⟨w1, hcp, HC1, hB1, hz1⟩ := clone_strs x c N ss w' C hC hN.out (fun i hi => by
                      have e := ha (by have := hN.out; omega)
                      injection e with e
                      rw [e, WideShapes.add_plain]
                      exact HC.out i hi)
                    have HB1 : Hid (Below w'.heap.size w' w1) := hB1
                    clear hB1 hC
                    go_upto_region 38 with fail
                    obtain ⟨C5, hC5, hmk5⟩ := make_bytes w1 U (by omega)
                    have HBd : Hid (Bd w1 W (obj ws.data.toList As) (.slice (some ⟨w1.heap.size, 0, none⟩) 0 U) (w1.alloc (.cells C5 5))) := by
                      have h := bd_start w1 C5 U hC5 (by omega) W
                      have e := HWe.out
                      unfold Hid
                      rw [e] at h ⊢
                      exact h
                    clear hC5 hmk hcp hnn hi hil
                    go_upto_region 49 with (first | (at_builtin; refine bd_str _ w1 rfl _ _ rfl W _ _ rfl _ rfl hWl HBd.out ?_; clear HBd; intro x1 n1 c1 u HBd) | (at_builtin; refine bd_one _ w1 _ _ (by rfl) rfl _ _ rfl W _ _ rfl rfl hWl HBd.out ?_; clear HBd; intro x1 n1 c1 u HBd))
                    go_wp2_with fail
                    clear hmk5
                    go_loopw [14, 15] (fun v i wr => ∃ (k : Nat) (x : Option Addr) (n c : Nat), k ≤ N ∧ i = .int .i64 (k : Nat) ∧ v = .slice x n c ∧ Hid (Bd w1 W (its ws.data.toList (k == 0) (As.drop k)) (.slice x n c) wr)) (fun _ i _ => N - (intOf i).toNat)
                    case atStart => exact ⟨0, x1, n1, c1, Nat.zero_le _, rfl, rfl, HBd⟩
                    case round =>
                      clear HBd
                      obtain ⟨k2, x2, n2, c2, hk2, rfl, rfl, HB2⟩ := hrel
                      by_cases hlt : (k2 : Int) < (N : Int)
                      · have hkl : k2 < ss.length := by have := hN.out; omega
                        have gw := HC1.out k2 hkl
                        rw [Nat.zero_add] at gw
                        obtain ⟨S, hS⟩ : ∃ S, S = ss[k2] := ⟨_, rfl⟩
                        rw [← hS] at gw
                        have hd : As.drop k2 = S.data.toList :: As.drop (k2 + 1) := by
                          have h1 : k2 < As.length := by rw [HAl.out]; omega
                          rw [List.drop_eq_getElem_cons h1]
                          congr 1
                          simp only [HAs.out, List.getElem_map, hS]
                        clear hS hkl
                        by_cases hk0 : (0 : Int) < (k2 : Int)
                        · have HBd : Hid (Bd w1 W (ws.data.toList ++ (44 :: (ws.data.toList ++ (34 :: (S.data.toList ++ (34 :: its ws.data.toList false (As.drop (k2 + 1)))))))) (.slice x2 n2 c2) wr) := by
                            have h := HB2.out
                            rw [show (k2 == 0) = false by simp; omega, hd] at h
                            exact h
                          clear HB2 hd
                          go_wp2_with (first | (at_builtin; refine bd_str _ w1 rfl _ _ rfl W _ _ rfl _ rfl hWl HBd.out ?_; clear HBd; intro x1 n1 c1 u HBd; have g1 := cell_at gw hz1 HBd.out) | (at_builtin; refine bd_one _ w1 _ _ (by rfl) rfl _ _ rfl W _ _ rfl rfl hWl HBd.out ?_; clear HBd; intro x1 n1 c1 u HBd; have g1 := cell_at gw hz1 HBd.out))
                          go_roundw
                          case rel => exact ⟨k2 + 1, _, _, _, by omega, by go_num, rfl, HBd⟩
                          case measure => simp [intOf]; omega
                        · have HBd : Hid (Bd w1 W (ws.data.toList ++ (34 :: (S.data.toList ++ (34 :: its ws.data.toList false (As.drop (k2 + 1)))))) (.slice x2 n2 c2) wr) := by
                            have h := HB2.out
                            rw [show (k2 == 0) = true by simp; omega, hd] at h
                            exact h
                          clear HB2 hd
                          go_wp2_with (first | (at_builtin; refine bd_str _ w1 rfl _ _ rfl W _ _ rfl _ rfl hWl HBd.out ?_; clear HBd; intro x1 n1 c1 u HBd; have g1 := cell_at gw hz1 HBd.out) | (at_builtin; refine bd_one _ w1 _ _ (by rfl) rfl _ _ rfl W _ _ rfl rfl hWl HBd.out ?_; clear HBd; intro x1 n1 c1 u HBd; have g1 := cell_at gw hz1 HBd.out))
                          go_roundw
                          case rel => exact ⟨k2 + 1, _, _, _, by omega, by go_num, rfl, HBd⟩
                          case measure => simp [intOf]; omega
                      · have HBd : Hid (Bd w1 W (ws.data.toList ++ (93 :: (ws.data.toList ++ (125 :: (ws.data.toList ++ []))))) (.slice x2 n2 c2) wr) := by
                          have h := HB2.out
                          rw [List.drop_of_length_le (by rw [HAl.out]; omega), its_nil] at h
                          rw [List.append_nil]
                          exact h
                        clear HB2
                        go_upto_region 64 with (first | (at_builtin; refine bd_str _ w1 rfl _ _ rfl W _ _ rfl _ rfl hWl HBd.out ?_; clear HBd; intro x1 n1 c1 u HBd) | (at_builtin; refine bd_one _ w1 _ _ (by rfl) rfl _ _ rfl W _ _ rfl rfl hWl HBd.out ?_; clear HBd; intro x1 n1 c1 u HBd))
                        obtain ⟨g, rfl, hn1, hcl, hbu⟩ := bd_end HBd.out (by rw [HWe.out]; exact obj_pos _ _)
                        have H8 := zz8_any g n1 c1 ws.data.toList As u (by rw [hn1, HWe.out]) (by rw [hn1]; exact hWl) (by rw [HAl.out]; omega) (by rw [HWe.out] at hcl; exact hcl) HWp.out HAp.out
                        rw [HAl.out] at H8
                        have HC8 : Hid (Calls Try.prog 8 #[.slice (some ⟨g, 0, none⟩) n1 c1] u _) := H8
                        have HBu : Hid (Below w1.heap.size w1 u) := hbu
                        have hzu := hbu.size
                        clear HBd H8 hcl hn1 hbu
                        go_wp2_with fail
                        refine HC8.out.mono ?_
                        rintro r w5 ⟨⟨x5, c5, rfl, ho5⟩, hb5⟩
                        obtain ⟨g5, rfl⟩ := some_zero ho5
                        have hcs := strs_cell HAs.out ho5
                        have HB5 : Hid (Below w'.heap.size w' (w5.alloc (.cells #[.slice (some ⟨g5, 0, none⟩) N c5] 26))) :=
                          (((HB1.out.trans (HBu.out.mono (by omega))).trans (hb5.mono (by omega))).alloc (by have := hb5.size; omega) _)
                        have HG5 : Hid (∀ i (hi : i < ss.length), (w5.alloc (.cells #[.slice (some ⟨g5, 0, none⟩) N c5] 26)).cell? ⟨g5, i, none⟩ = some (.string ss[i])) := fun i hi => Lib.cell?_alloc_marked _ (hcs i hi)
                        have HG6 : Hid (∀ i (hi : i < ss.length), (w5.alloc (.cells #[.slice (some ⟨g5, 0, none⟩) N c5] 26)).cell? ⟨w'.heap.size, i, none⟩ = some (.string ss[i])) := fun i hi => by
                          have e := HC1.out i hi
                          rw [Nat.zero_add] at e
                          exact Lib.cell?_alloc_marked _ ((hb5.cell (p := ⟨w'.heap.size, i, none⟩) (by show w'.heap.size < _; omega)).trans ((HBu.out.cell (p := ⟨w'.heap.size, i, none⟩) hz1).trans e))
                        have b0 := (Boxed.new w5 26 (.slice (some ⟨g5, 0, none⟩) N c5)).cell
                        have HX0 : Hid ((w5.alloc (.cells #[.slice (some ⟨g5, 0, none⟩) N c5] 26)).cell? ⟨w5.heap.size, 0, none⟩ = some (.slice (some ⟨g5, 0, none⟩) N c5)) := b0
                        clear ho5 hb5 hcs HC8 HBu HB1
                        go_wp2_with fail
                        clear b0
                        go_loopw [18] (fun i wr => ∃ k : Nat, k ≤ N ∧ i = .int .i64 (k : Nat) ∧ Hid ((∀ b : Nat, wr.heap[b]? = (w5.alloc (.cells #[.slice (some ⟨g5, 0, none⟩) N c5] 26)).heap[b]?) ∧ Below w'.heap.size w' wr)) (fun i _ => N - (intOf i).toNat)
                        case atStart => exact ⟨0, Nat.zero_le _, rfl, fun _ => rfl, HB5.out⟩
                        case round =>
                          obtain ⟨k3, hk3, rfl, HR⟩ := hrel
                          by_cases hlt3 : (k3 : Int) < (N : Int)
                          · have hkl : k3 < ss.length := by have := hN.out; omega
                            have f0 := (cell_of (a := ⟨w5.heap.size, 0, none⟩) HR.out.1).trans HX0.out
                            have f1 := (cell_of (a := ⟨g5, k3, none⟩) HR.out.1).trans (HG5.out k3 hkl)
                            have f2 := (cell_of (a := ⟨w'.heap.size, k3, none⟩) HR.out.1).trans (HG6.out k3 hkl)
                            obtain ⟨S, hS⟩ : ∃ S, S = ss[k3] := ⟨_, rfl⟩
                            rw [← hS] at f1 f2
                            clear hS hkl
                            go_wp2_with fail
                            go_region
                            go_wp2_with fail
                            go_roundw
                            case rel => exact ⟨k3 + 1, by omega, by go_num, HR.out.1, HR.out.2.drew⟩
                            case measure => simp [intOf]; omega
                          · go_wp2_with fail
                            go_ret
                            exact ⟨rfl, HR.out.2⟩
        · go_upto_region 18 with fail
          clear hwm hU1 HU
          go_wp2
          go_ret
          exact ⟨rfl, Below.refl _ _⟩
end Go.Proofs.Qxb6605439a
