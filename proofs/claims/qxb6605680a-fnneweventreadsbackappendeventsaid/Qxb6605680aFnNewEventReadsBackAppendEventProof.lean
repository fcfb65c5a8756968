/-
  THE PROOF OF 'Rows.FnNewEventReadsBackAppendEventSaid' ('example.com/breakwater/breakwater/zzlaws_internal_sse_b1.FnNewEventReadsBackAppendEvent'), in the guide's frame (proof-skeleton.mjs), the walk filled in.
-/
import Derived.Test.Qxb6605680aRows
import Derived.Test.Qxb6605680aBack
import Derived.Test.Qxb6605680aAppend
import Derived.Test.Qxb6605680aLaw4b
import Derived.WalkKit
import Derived.ProofKit
import Derived.OpenShut
import Derived.ShutString
import Derived.ChangeOld
import Derived.Below
namespace Go.Proofs.Qxb6605680a.fnNewEventReadsBackAppendEvent
open Go.ChangeShapes Go.WideShapes Go.ChangeAt Go.RowKit
open Go.ChangeMaps (open_string shut_string)
set_option linter.unusedVariables false

theorem own : ownKnob Try.prog.godebug = none := by kernel_rfl
theorem laidOut : laidOutB Try.prog = true := by kernel_rfl

/-! ### STEP 1: THE WALK -/
/-- a []byte that came in, its clone -/
theorem row_in {w : World} {a : Option Addr} {n c : Nat} {zs : List Int} (h : IsRow .u8 w a n c zs) (hn : n ≤ 1048576) :
    ∃ (L : List UInt8) (B o : Nat), n = L.length ∧ (0 < n → a = some ⟨B, o, none⟩) ∧ Seg w B o L ∧
      ∀ W, Below w.heap.size w W → Calls Try.prog 7 #[.slice a n c] W fun r w' => ∃ v1, r = .returned (.slice v1 n n) ∧ SrcAt w' v1 n L ∧ w'.ownsRow W.heap.size 5 1 (.slice v1 n n) L.length (cellsOf L) ∧ Below W.heap.size W w' := by
  rcases isRow_cases h with ⟨rfl, rfl, rfl⟩ | ⟨x, l, rfl, hl, hc, hm, hs⟩
  · refine ⟨[], 0, 0, rfl, fun h0 => by omega, fun i hi => by simp at hi, fun W _ => ?_⟩
    refine (clone_nil W).mono ?_
    rintro e w' ⟨rfl, rfl⟩
    exact ⟨none, rfl, .inl ⟨rfl, rfl, rfl⟩, ⟨by simp [cellsOf], .inl ⟨rfl, rfl⟩⟩, Below.refl _ _⟩
  · have hx : 0 < n → x = ⟨x.block, x.off, none⟩ := by
      intro h0
      have := World.cell?_spot (hs 0 (by omega))
      obtain ⟨b, o, sp⟩ := x
      simp [Addr.add] at this
      subst this; rfl
    refine ⟨l, x.block, x.off, hl, fun h0 => by rw [← hx h0], ?_, fun W hW => ?_⟩
    · intro i hi
      have e := hs i hi
      rw [hx (by omega)] at e
      rw [← add_addr]; exact e
    · refine (clone_at x c n l W hl (by omega) ?_).mono ?_
      · intro i hi
        have e := hs i hi
        have hlt : (x.add i).block < w.heap.size := by
          obtain ⟨b, o, sp⟩ := x
          unfold World.cell? at e
          by_cases hb : (Addr.add ⟨b, o, sp⟩ i).block < w.heap.size
          · exact hb
          · rw [Array.getElem?_eq_none (by omega)] at e
            simp at e
        exact (hW.cell hlt).trans e
      · rintro e w' ⟨rfl, ho, hb⟩
        refine ⟨_, rfl, .inr ⟨_, _, rfl, ho.seg⟩, ?_, hb⟩
        unfold OwnsAt at ho
        rw [← hl] at ho ⊢
        exact ho

theorem cut_mid (P D E : List UInt8) (n m : Nat) (hn : n = P.length) (hm : m = D.length) : ((P ++ (D ++ E)).drop n).take m = D := by
  subst hn hm
  rw [List.drop_left, List.take_left]

theorem walk (a0 : Option Addr) (len0 cap0 : Nat) (z0 : List Int) (a1 : ByteArray) (a2 : Option Addr) (len2 cap2 : Nat) (z2 : List Int) (w : World) (w0 : IsRow .u8 w a0 len0 cap0 z0) (w1 : a1.size ≤ maxLen) (w2 : IsRow .u8 w a2 len2 cap2 z2) :
    Calls Try.prog 4 #[.slice a0 len0 cap0, .string a1, .slice a2 len2 cap2] w fun e w' => e = .returned (.bool true) ∧ Below w.heap.size w w' := by
  by_cases h : (len0 : Int) + a1.size + len2 ≤ 1048576
  · obtain ⟨S, BS, oS, hS, hbS, hsS, HS⟩ := row_in w0 (by omega)
    obtain ⟨D, Bd, od, hD, hbD, hsD, HDc⟩ := row_in w2 (by omega)
    have HS1 := (HS w (Below.refl _ _)).mono (R' := fun r w' => ∃ v1, r = .returned (.slice v1 len0 len0) ∧ w'.ownsRow w.heap.size 5 1 (.slice v1 len0 len0) S.length (cellsOf S) ∧ Below w.heap.size w w') (by
      rintro e w' ⟨v1, rfl, _, h2, h3⟩; exact ⟨v1, rfl, h2, h3⟩)
    have HD1 : ∀ W, Below w.heap.size w W → Calls Try.prog 7 #[.slice a2 len2 cap2] W fun r w' => ∃ v2, r = .returned (.slice v2 len2 len2) ∧ SrcAt w' v2 len2 D ∧ Below W.heap.size W w' := fun W hW => (HDc W hW).mono (by
      rintro e w' ⟨v1, rfl, h1, h2, h3⟩; exact ⟨v1, rfl, h1, h3⟩)
    by_cases he : a1.size = 0
    · obtain rfl : a1 = ⟨#[]⟩ := by
        cases a1 with
        | mk d => congr 1; exact Array.eq_empty_of_size_eq_zero he
      refine law4_near a0 a2 len0 cap0 len2 cap2 Bd od _ S D (([100, 97, 116, 97, 58, 32] ++ D) ++ 10 :: [10]) 6 w h hS hD hbD hsD HS1 HD1 ?_ ?_ (by simp; omega) (by simp; omega) ?_
      · intro W v1 v2 hW ho hv
        exact append_bare v1 len0 w.heap.size S v2 len2 len2 D _ W hS ho hW hD hv (by omega) (by omega) (show _ = _ by simp)
      · intro _ hn hl
        rw [hD]
        exact Sp.fin_bare D hn hl
      · show _ = _
        rw [List.append_assoc]
        exact cut_mid _ D _ _ _ rfl hD
    · refine law4_near a0 a2 len0 cap0 len2 cap2 Bd od _ S D (([101, 118, 101, 110, 116, 58, 32] ++ a1.data.toList ++ [10]) ++ (([100, 97, 116, 97, 58, 32] ++ D) ++ 10 :: [10])) (([101, 118, 101, 110, 116, 58, 32] ++ a1.data.toList ++ [10]).length + 6) w h hS hD hbD hsD HS1 HD1 ?_ ?_ (by simp; omega) (by simp; omega) ?_
      · intro W v1 v2 hW ho hv
        exact append_typed v1 len0 w.heap.size S a1 v2 len2 len2 D _ W hS ho hW hD hv (by omega) (by omega) (by omega) (by rw [← Bool.not_eq_true, List.isEmpty_iff, ← List.length_eq_zero_iff]; simpa [ByteArray.toList_eq] using he) (show _ = _ by simp)
      · intro ht hn hl
        have := Sp.fin_typed a1.data.toList D ht hn hl
        rw [← Nat.add_assoc, ← hD] at this
        exact this
      · show _ = _
        rw [List.append_assoc [100, 97, 116, 97, 58, 32] D, ← List.append_assoc _ [100, 97, 116, 97, 58, 32]]
        exact cut_mid _ D _ _ _ (by simp) hD
  · refine law4_far a0 a2 len0 cap0 len2 cap2 a1 w ?_ ?_ (by unfold maxLen at w1; omega) (by omega)
    · rcases isRow_cases w0 with ⟨_, h, _⟩ | ⟨_, _, _, _, h1, h2, _⟩
      · omega
      · unfold maxLen at h2; omega
    · rcases isRow_cases w2 with ⟨_, h, _⟩ | ⟨_, _, _, _, h1, h2, _⟩
      · omega
      · unfold maxLen at h2; omega

/-! ### THE ROW's STEP: WRITTEN OUT: LEAVE IT -/
set_option maxRecDepth 100000 in
theorem lifted (os : Os) (started : os.Started) (H : Type) (enc : TypeId × Value → H) :
    ReturnsInHanded {} Try.checked os 4 .any (Rows.fnNewEventReadsBackAppendEventSpec.pre6 enc Try.prog Try.f4 Rows.fnNewEventReadsBackAppendEventRow.domain false) (Rows.fnNewEventReadsBackAppendEventSpec.post enc Try.prog Try.f4 false true false false) := by
  refine returnsInHanded_of_change (C := Try.checked) own started (by kernel_rfl) Try.func4
    (ChangeSpec.witness6 (enc := enc) (C := Try.checked) false ⟨#[], #[.slice none 0 0, .string ByteArray.empty, .slice none 0 0], []⟩ 8 (by kernel_rfl) (by kernel_rfl) (by kernel_rfl) (by kernel_rfl)) ?_
  intro W base args ds gs before hval0 hW hcnd _
  have hval : ∀ (j : Nat) t v, Try.f4.params[j]? = some t → args[j]? = some v → Value.okWide Try.prog W .any base t v := hval0
  have hW' := hW
  obtain ⟨p, q, hA0, hV, rfl, hfz, hnd⟩ := hW
  have hA : DataW.TrodAll enc Try.prog W 0 (fun _ => true) true Try.f4.params.toList args.toList ds p := hA0
  rw [Try.params4] at hA hval
  obtain ⟨v0, vs0, d0, ds0, p0, q0, hargs, rfl, rfl, h0, r0⟩ := trodAll_cons hA
  obtain ⟨v1, vs1, d1, ds1, p1, q1, rfl, rfl, rfl, h1, r1⟩ := trodAll_cons r0
  obtain ⟨v2, vs2, d2, ds2, p2, q2, rfl, rfl, rfl, h2, r2⟩ := trodAll_cons r1
  obtain ⟨rfl, rfl, rfl⟩ := trodAll_nil r2
  obtain rfl : args = #[v0, v1, v2] := by cases args; simp_all
  obtain ⟨rfl, rfl⟩ := trodVars_none hV
  obtain ⟨a0, len0, cap0, rfl⟩ := okWide_slice Try.underlying22 (hval 0 22 v0 rfl rfl)
  have k0 := h0
  have lt0 : ∀ x ∈ p0, x.block < W.heap.size := by obtain ⟨m, hm⟩ := k0; exact DataW.trod_lt m _ _ _ hm
  obtain ⟨z0, w0⟩ : ∃ zs, IsRow .u8 W a0 len0 cap0 zs := by
    obtain ⟨fuel, hf⟩ := h0
    rcases open_ints Try.underlying22 Try.underlying5 (by kernel_rfl) hf with ⟨hcs, _⟩ | ⟨x, l, c, zs, hcs, _, hl, hm, hz, _, hcell, hwz⟩
    · simp [Value.cells] at hcs
      obtain ⟨rfl, rfl, rfl⟩ := hcs
      exact ⟨[], .inl ⟨rfl, rfl, rfl, rfl⟩⟩
    · simp [Value.cells] at hcs
      obtain ⟨rfl, rfl, rfl⟩ := hcs
      exact ⟨zs, .inr ⟨_, rfl, hl, hm, by simpa using hz, hcell, hwz⟩⟩
  obtain ⟨a1, rfl, rfl, rfl, w1⟩ := open_string Try.underlying9 (hval 1 9 v1 rfl rfl) h1
  obtain ⟨a2, len2, cap2, rfl⟩ := okWide_slice Try.underlying22 (hval 2 22 v2 rfl rfl)
  have k2 := h2
  have lt2 : ∀ x ∈ p2, x.block < W.heap.size := by obtain ⟨m, hm⟩ := k2; exact DataW.trod_lt m _ _ _ hm
  obtain ⟨z2, w2⟩ : ∃ zs, IsRow .u8 W a2 len2 cap2 zs := by
    obtain ⟨fuel, hf⟩ := h2
    rcases open_ints Try.underlying22 Try.underlying5 (by kernel_rfl) hf with ⟨hcs, _⟩ | ⟨x, l, c, zs, hcs, _, hl, hm, hz, _, hcell, hwz⟩
    · simp [Value.cells] at hcs
      obtain ⟨rfl, rfl, rfl⟩ := hcs
      exact ⟨[], .inl ⟨rfl, rfl, rfl, rfl⟩⟩
    · simp [Value.cells] at hcs
      obtain ⟨rfl, rfl, rfl⟩ := hcs
      exact ⟨zs, .inr ⟨_, rfl, hl, hm, by simpa using hz, hcell, hwz⟩⟩
  clear hA0 hval0
  refine (walk a0 len0 cap0 z0 a1 a2 len2 cap2 z2 W w0 w1 w2).mono fun e W' ⟨he, bel⟩ => ?_
  subst he
  exact ⟨_, rfl, _, _, _, [], _, [], hW', trodAll_mk1 (shut_bool Try.underlying4 _), (trodAll_cons_mk (Below.trod laidOut (by kernel_rfl) (of_decide_eq_true (by kernel_rfl)) k0 bel lt0) (trodAll_cons_mk (shut_string Try.underlying9 w1) (trodAll_cons_mk (Below.trod laidOut (by kernel_rfl) (of_decide_eq_true (by kernel_rfl)) k2 bel lt2) trodAll_mk0))), rfl, bel.frame _, fun h => by cases h⟩

theorem over : Rows.fnNewEventReadsBackAppendEventRow.holds Try.pinned (OpenSpec.ofChange Rows.fnNewEventReadsBackAppendEventSpec) :=
  OpenClaim.holds_of_wide 4 Try.f4 rfl rfl rfl rfl rfl rfl rfl ⟨rfl, rfl, rfl, rfl, rfl⟩ rfl rfl rfl rfl rfl (by kernel_rfl) Try.func4 (by kernel_rfl)
    (of_decide_eq_true (by kernel_rfl)) (by unfold Func.isWrapper; first | (rw [if_pos (by decide +kernel)]; kernel_rfl) | (rw [if_neg (by decide +kernel)]; exact ⟨rfl, rfl⟩))
    (fun os started H enc _ => lifted os started H enc)

/-- ████ THE STATEMENT ████ -/
theorem proved : Rows.FnNewEventReadsBackAppendEventSaid := over
#print axioms proved
end Go.Proofs.Qxb6605680a.fnNewEventReadsBackAppendEvent
