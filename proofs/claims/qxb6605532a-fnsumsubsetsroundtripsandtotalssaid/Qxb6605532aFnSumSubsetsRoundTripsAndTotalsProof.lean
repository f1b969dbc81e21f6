/-
  The proof of Rows.FnSumSubsetsRoundTripsAndTotalsSaid. The frame is what proof-skeleton wrote for this function; the walk is ours.
-/
import Derived.Test.Qxb6605532aRows
import Derived.Test.Qxb6605532aWalk2
import Derived.WalkKit
import Derived.ProofKit
import Derived.OpenShut
import Derived.ShutString
import Derived.ChangeOld
import Derived.Below
namespace Go.Proofs.Qxb6605532a.fnSumSubsetsRoundTripsAndTotals
open Go.ChangeShapes Go.WideShapes Go.ChangeAt Go.RowKit
open Go.ChangeMaps (open_string shut_string)
set_option linter.unusedVariables false

theorem own : ownKnob Try.prog.godebug = none := by kernel_rfl
theorem laidOut : laidOutB Try.prog = true := by kernel_rfl

/-- WHAT THE WALK IS TOLD OF A SLICE OF INTEGERS THAT CAME IN: it is nil; or it leads to a row of 'cap' cells, the numbers 'zs' (the first 'len' are its elements, the rest its spare room), each fitting its kind. -/
def IsRow (k : IntKind) (w : World) (a : Option Addr) (len cap : Nat) (zs : List Int) : Prop :=
  (a = none ∧ len = 0 ∧ cap = 0 ∧ zs = []) ∨
  ∃ x, a = some x ∧ len ≤ cap ∧ cap ≤ maxLen ∧ zs.length = cap ∧ (∀ i, i < zs.length → w.cell? (x.add i) = some (.int k (zs.getD i 0))) ∧ ∀ n ∈ zs, (Lit.int k n).wf = true

open Go.Proofs.Qxb6605532a.Mem Go.Proofs.Qxb6605532a.Plain Go.Proofs.Qxb6605532a.Walk
theorem bytes_no (a : Option Addr) (n cap : Nat) (w : World) (h : ¬ (n : Int) ≤ 1048576) :
    Calls Try.prog 12 #[.slice a n cap] w fun e w' => e = .returned (.bool false) ∧ w = w' := by
  go_enter Try.func12, Try.ntmps12
  go_wp2
  go_ret
  exact ⟨rfl, rfl⟩

theorem bytes_yes (a : Option Addr) (n cap : Nat) (w : World) (h : (n : Int) ≤ 1048576) :
    Calls Try.prog 12 #[.slice a n cap] w fun e w' => e = .returned (.bool true) ∧ w = w' := by
  go_enter Try.func12, Try.ntmps12
  go_wp2
  go_ret
  exact ⟨rfl, rfl⟩


/-- The entry at m - 1, m = 2^j, holds the total of the first m. -/
theorem total (F : Nat → Int) {j k : Nat} (hk : k = 2 ^ j) (hn : k ≤ 4096) : op (cf false) 12 F (k - 1) = sum F k := by
  have hp := Nat.two_pow_pos j
  have hj : j ≤ 12 := by
    have h1 : 2 ^ j ≤ 2 ^ 12 := by rw [← hk]; omega
    exact (Nat.pow_le_pow_iff_right (a := 2) (by omega)).1 h1
  subst hk
  show op 1 12 F _ = _
  rw [op_stable 1 F j 12 _ hj (by omega), op_eq_T 1 j F _ (by omega)]
  exact T_total j F

set_option maxHeartbeats 1000000 in
theorem core (a : Addr) (n cap : Nat) (F : Nat → Int) (w : World) (hn : n ≤ 4096) (hcl : Hid (Calls Try.prog 8 #[.slice (some a) n cap] w (Cloned n F w))) :
    Calls Try.prog 4 #[.slice (some a) n cap] w fun e w' => e = .returned (.bool true) ∧ Below w.heap.size w w' := by
  have hn' : (n : Int) ≤ 4096 := by omega
  go_enter Try.func4, Try.ntmps4
  go_wp2_with (go_at_call 12; refine (bytes_yes _ _ _ _ (by omega)).mono ?_; rintro e w' ⟨rfl, rfl⟩)
  refine hcl.out.mono ?_
  rintro e w1 ⟨b0, rfl, W1, B1, hb0⟩
  clear hcl
  go_wp2_with fail
  refine (clone_own' b0 n F w1 hn W1).mono ?_
  rintro e w2 ⟨b1, rfl, W2, B2, hb1⟩
  have hb01 : b0 < b1 := Nat.lt_of_lt_of_le W1.lt hb1
  have V2 : Words w2 b0 n F := below_words B2 W1.lt W1
  have D2 : Below w.heap.size w w2 := next B1 B1.size B2
  clear W1 B1 B2 hb1
  go_wp2_with fail
  refine (zsum_any false b1 n F w2 hn W2).mono ?_
  rintro e w3 ⟨rfl, W3, U3⟩
  have V3 : Words w3 b0 n F := U3.words (by omega) V2
  have D3 : Below w.heap.size w w3 := D2.trans (U3.below (by omega))
  clear W2 V2 D2 U3
  by_cases hp : 0 < n
  · go_wp2_with fail
    go_loop [4] (fun v => ∃ j M : Nat, M = 2 ^ j ∧ M ≤ n ∧ v = .int .i64 M) (fun v => n - (intOf v).toNat)
    case atStart => exact ⟨0, 1, rfl, by omega, rfl⟩
    case round =>
      obtain ⟨j, M, hM, hMn, rfl⟩ := hrel
      have HM : Hid (M = 2 ^ j) := hM
      have hM1 : 1 ≤ M := by rw [hM]; exact Nat.two_pow_pos j
      clear hM
      by_cases hlt : M * 2 ≤ n
      · go_wp2_with fail
        go_round
        case rel => exact ⟨j + 1, M * 2, by rw [HM.out, Nat.pow_succ], hlt, by go_num⟩
        case measure => simp [intOf]; omega
      · go_wp2_with fail
        go_loop [5, 6] (fun t v => ∃ k : Nat, k ≤ M ∧ v = .int .i64 k ∧ t = .int .u64 (uw (sum F k))) (fun _ v => M - (intOf v).toNat)
        case atStart => exact ⟨0, by omega, rfl, by simp [sum, uw_eq]⟩
        case round =>
          obtain ⟨k, hk, rfl, rfl⟩ := hrel
          by_cases hkm : k < M
          · have hc := V3.cell (i := k) (by omega)
            go_wp2_with fail
            go_round
            case rel => exact ⟨k + 1, by omega, by go_num, by rw [uw_add]; rfl⟩
            case measure => simp [intOf]; omega
          · have hkM : k = M := by omega
            subst hkM
            have hc := W3.cell (i := k - 1) (by omega)
            rw [total F HM.out (by omega)] at hc
            go_wp2_with fail
            refine (zsum_any true b1 n _ _ hn W3).mono ?_
            rintro e w4 ⟨rfl, W4, U4⟩
            have V4 : Words w4 b0 n F := U4.words (by omega) V3
            have D4 : Below w.heap.size w w4 := D3.trans (U4.below (by omega))
            clear W3 V3 D3 U4
            go_wp2_with fail
            refine (same_yes' b1 b0 n _ F w4 hn W4 V4 (fun s hs => back false F s (by omega))).mono ?_
            rintro e w5 ⟨rfl, B5⟩
            have V5 : Words w5 b0 n F := below_words B5 V4.lt V4
            have D5 : Below w.heap.size w w5 := next D4 D4.size B5
            clear W4 V4 D4 B5
            go_wp2_with fail
            refine (clone_own' b0 n F w5 hn V5).mono ?_
            rintro e w6 ⟨b2, rfl, W6, B6, hb2⟩
            have hb02 : b0 < b2 := Nat.lt_of_lt_of_le V5.lt hb2
            have V6 : Words w6 b0 n F := below_words B6 V5.lt V5
            have D6 : Below w.heap.size w w6 := next D5 D5.size B6
            clear V5 D5 B6 hb2
            go_wp2_with fail
            refine (zsum_any true b2 n F w6 hn W6).mono ?_
            rintro e w7 ⟨rfl, W7, U7⟩
            have V7 : Words w7 b0 n F := U7.words (by omega) V6
            have D7 : Below w.heap.size w w7 := D6.trans (U7.below (by omega))
            clear W6 V6 D6 U7
            go_wp2_with fail
            refine (zsum_any false b2 n _ w7 hn W7).mono ?_
            rintro e w8 ⟨rfl, W8, U8⟩
            have V8 : Words w8 b0 n F := U8.words (by omega) V7
            have D8 : Below w.heap.size w w8 := D7.trans (U8.below (by omega))
            clear W7 V7 D7 U8
            go_wp2_with fail
            refine (same_yes' b2 b0 n _ F w8 hn W8 V8 (fun s hs => back true F s (by omega))).mono ?_
            rintro e w9 ⟨rfl, B9⟩
            go_wp2_with fail
            go_ret
            exact ⟨rfl, next D8 D8.size B9⟩
  · go_wp2_with fail
    refine (zsum_any true b1 n _ _ hn W3).mono ?_
    rintro e w4 ⟨rfl, W4, U4⟩
    have V4 : Words w4 b0 n F := U4.words (by omega) V3
    have D4 : Below w.heap.size w w4 := D3.trans (U4.below (by omega))
    clear W3 V3 D3 U4
    go_wp2_with fail
    refine (same_yes' b1 b0 n _ F w4 hn W4 V4 (fun s hs => back false F s (by omega))).mono ?_
    rintro e w5 ⟨rfl, B5⟩
    have V5 : Words w5 b0 n F := below_words B5 V4.lt V4
    have D5 : Below w.heap.size w w5 := next D4 D4.size B5
    clear W4 V4 D4 B5
    go_wp2_with fail
    refine (clone_own' b0 n F w5 hn V5).mono ?_
    rintro e w6 ⟨b2, rfl, W6, B6, hb2⟩
    have hb02 : b0 < b2 := Nat.lt_of_lt_of_le V5.lt hb2
    have V6 : Words w6 b0 n F := below_words B6 V5.lt V5
    have D6 : Below w.heap.size w w6 := next D5 D5.size B6
    clear V5 D5 B6 hb2
    go_wp2_with fail
    refine (zsum_any true b2 n F w6 hn W6).mono ?_
    rintro e w7 ⟨rfl, W7, U7⟩
    have V7 : Words w7 b0 n F := U7.words (by omega) V6
    have D7 : Below w.heap.size w w7 := D6.trans (U7.below (by omega))
    clear W6 V6 D6 U7
    go_wp2_with fail
    refine (zsum_any false b2 n _ w7 hn W7).mono ?_
    rintro e w8 ⟨rfl, W8, U8⟩
    have V8 : Words w8 b0 n F := U8.words (by omega) V7
    have D8 : Below w.heap.size w w8 := D7.trans (U8.below (by omega))
    clear W7 V7 D7 U8
    go_wp2_with fail
    refine (same_yes' b2 b0 n _ F w8 hn W8 V8 (fun s hs => back true F s (by omega))).mono ?_
    rintro e w9 ⟨rfl, B9⟩
    go_wp2_with fail
    go_ret
    exact ⟨rfl, next D8 D8.size B9⟩


/-! ### THE WALK -/
theorem walk (a0 : Option Addr) (len0 cap0 : Nat) (z0 : List Int) (w : World) (w0 : IsRow .u64 w a0 len0 cap0 z0) :
    Calls Try.prog 4 #[.slice a0 len0 cap0] w fun e w' => e = .returned (.bool true) ∧ Below w.heap.size w w' := by
  rcases w0 with ⟨rfl, rfl, rfl, rfl⟩ | ⟨x, rfl, hlc, hcm, hz, hcell, hwf⟩
  · go_enter Try.func4, Try.ntmps4
    go_wp2_with (first | (go_at_call 12; refine (bytes_yes _ _ _ _ (by decide)).mono ?_; rintro e w' ⟨rfl, rfl⟩) | (go_at_call 8; refine (clone_nil _).mono ?_; rintro e w' ⟨rfl, rfl⟩) | (go_at_call 10; refine (zsum_nil _ _).mono ?_; rintro e w' ⟨rfl, rfl⟩) | (go_at_call 11; refine (same_nil _).mono ?_; rintro e w' ⟨rfl, rfl⟩))
    go_ret
    exact ⟨rfl, Below.refl _ _⟩
  · unfold maxLen at hcm
    by_cases h1 : (len0 : Int) ≤ 1048576
    · by_cases h2 : (len0 : Int) ≤ 4096
      · exact core x len0 cap0 (fun i => z0.getD i 0) w (by omega) (clone_arg x len0 cap0 z0 w (by omega) (by omega) hcell hwf)
      · go_enter Try.func4, Try.ntmps4
        go_wp2_with (go_at_call 12; refine (bytes_yes _ _ _ _ h1).mono ?_; rintro e w' ⟨rfl, rfl⟩)
        go_ret
        exact ⟨rfl, Below.refl _ _⟩
    · go_enter Try.func4, Try.ntmps4
      go_wp2_with (go_at_call 12; refine (bytes_no _ _ _ _ h1).mono ?_; rintro e w' ⟨rfl, rfl⟩)
      go_ret
      exact ⟨rfl, Below.refl _ _⟩

/-! ### THE ROW's STEP: WRITTEN OUT: LEAVE IT -/
set_option maxRecDepth 100000 in
theorem lifted (os : Os) (started : os.Started) (H : Type) (enc : TypeId × Value → H) :
    ReturnsInHanded {} Try.checked os 4 .any (Rows.fnSumSubsetsRoundTripsAndTotalsSpec.pre6 enc Try.prog Try.f4 Rows.fnSumSubsetsRoundTripsAndTotalsRow.domain false) (Rows.fnSumSubsetsRoundTripsAndTotalsSpec.post enc Try.prog Try.f4 false true false false) := by
  refine returnsInHanded_of_change (C := Try.checked) own started (by kernel_rfl) Try.func4
    (ChangeSpec.witness6 (enc := enc) (C := Try.checked) false ⟨#[], #[.slice none 0 0], []⟩ 8 (by kernel_rfl) (by kernel_rfl) (by kernel_rfl) (by kernel_rfl)) ?_
  intro W base args ds gs before hval0 hW hcnd _
  have hval : ∀ (j : Nat) t v, Try.f4.params[j]? = some t → args[j]? = some v → Value.okWide Try.prog W .any base t v := hval0
  have hW' := hW
  obtain ⟨p, q, hA0, hV, rfl, hfz, hnd⟩ := hW
  have hA : DataW.TrodAll enc Try.prog W 0 (fun _ => true) true Try.f4.params.toList args.toList ds p := hA0
  rw [Try.params4] at hA hval
  obtain ⟨v0, vs0, d0, ds0, p0, q0, hargs, rfl, rfl, h0, r0⟩ := trodAll_cons hA
  obtain ⟨rfl, rfl, rfl⟩ := trodAll_nil r0
  obtain rfl : args = #[v0] := by cases args; simp_all
  obtain ⟨rfl, rfl⟩ := trodVars_none hV
  obtain ⟨a0, len0, cap0, rfl⟩ := okWide_slice Try.underlying22 (hval 0 22 v0 rfl rfl)
  have k0 := h0
  have lt0 : ∀ x ∈ p0, x.block < W.heap.size := by obtain ⟨m, hm⟩ := k0; exact DataW.trod_lt m _ _ _ hm
  obtain ⟨z0, w0⟩ : ∃ zs, IsRow .u64 W a0 len0 cap0 zs := by
    obtain ⟨fuel, hf⟩ := h0
    rcases open_ints Try.underlying22 Try.underlying29 (by kernel_rfl) hf with ⟨hcs, _⟩ | ⟨x, l, c, zs, hcs, _, hl, hm, hz, _, hcell, hwz⟩
    · simp [Value.cells] at hcs
      obtain ⟨rfl, rfl, rfl⟩ := hcs
      exact ⟨[], .inl ⟨rfl, rfl, rfl, rfl⟩⟩
    · simp [Value.cells] at hcs
      obtain ⟨rfl, rfl, rfl⟩ := hcs
      exact ⟨zs, .inr ⟨_, rfl, hl, hm, by simpa using hz, hcell, hwz⟩⟩
  clear hA0 hval0
  refine (walk a0 len0 cap0 z0 W w0).mono fun e W' ⟨he, bel⟩ => ?_
  subst he
  exact ⟨_, rfl, _, _, _, [], _, [], hW', trodAll_mk1 (shut_bool Try.underlying4 _), (trodAll_cons_mk (Below.trod laidOut (by kernel_rfl) (of_decide_eq_true (by kernel_rfl)) k0 bel lt0) trodAll_mk0), rfl, bel.frame _, fun h => by cases h⟩

theorem over : Rows.fnSumSubsetsRoundTripsAndTotalsRow.holds Try.pinned (OpenSpec.ofChange Rows.fnSumSubsetsRoundTripsAndTotalsSpec) :=
  OpenClaim.holds_of_wide 4 Try.f4 rfl rfl rfl rfl rfl rfl rfl ⟨rfl, rfl, rfl, rfl, rfl⟩ rfl rfl rfl rfl rfl (by kernel_rfl) Try.func4 (by kernel_rfl)
    (of_decide_eq_true (by kernel_rfl)) (by unfold Func.isWrapper; first | (rw [if_pos (by decide +kernel)]; kernel_rfl) | (rw [if_neg (by decide +kernel)]; exact ⟨rfl, rfl⟩))
    (fun os started H enc _ => lifted os started H enc)

/-- ████ THE STATEMENT ████ -/
theorem proved : Rows.FnSumSubsetsRoundTripsAndTotalsSaid := over
end Go.Proofs.Qxb6605532a.fnSumSubsetsRoundTripsAndTotals
