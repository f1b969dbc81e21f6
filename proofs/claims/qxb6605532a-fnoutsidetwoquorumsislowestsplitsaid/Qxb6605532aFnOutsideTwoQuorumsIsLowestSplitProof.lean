/-
  The proof of Rows.FnOutsideTwoQuorumsIsLowestSplitSaid. The frame is turned from the one that proof-skeleton writes for slices of integers; the walk is ours.
-/
import Derived.Test.Qxb6605532aRows
import Derived.Test.Qxb6605532aArgs
import Derived.WalkKit
import Derived.ProofKit
import Derived.OpenShut
import Derived.ShutString
import Derived.ChangeOld
import Derived.Below
namespace Go.Proofs.Qxb6605532a.fnOutsideTwoQuorumsIsLowestSplit
open Go.ChangeShapes Go.WideShapes Go.ChangeAt Go.RowKit
open Go.Proofs.Qxb6605532a.Mem Go.Proofs.Qxb6605532a.Walk Go.Proofs.Qxb6605532a.Quo
set_option linter.unusedVariables false

theorem own : ownKnob Try.prog.godebug = none := by kernel_rfl
theorem laidOut : laidOutB Try.prog = true := by kernel_rfl

theorem bytes_no (a c : Option Addr) (n p m q : Nat) (w : World) (hn : n ≤ maxLen) (hm : m ≤ maxLen) (h : ¬ (n : Int) + m ≤ 1048576) :
    Calls Try.prog 13 #[.slice a n p, .slice c m q] w fun e w' => e = .returned (.bool false) ∧ w = w' := by
  unfold maxLen at hn hm
  by_cases h1 : (n : Int) ≤ 1048576
  · by_cases h2 : (m : Int) ≤ 1048576
    all_goals
      go_enter Try.func13, Try.ntmps13
      go_wp2
      go_ret
      exact ⟨rfl, rfl⟩
  · go_enter Try.func13, Try.ntmps13
    go_wp2
    go_ret
    exact ⟨rfl, rfl⟩

theorem bytes_yes (a c : Option Addr) (n p m q : Nat) (w : World) (h : (n : Int) + m ≤ 1048576) :
    Calls Try.prog 13 #[.slice a n p, .slice c m q] w fun e w' => e = .returned (.bool true) ∧ w = w' := by
  go_enter Try.func13, Try.ntmps13
  go_wp2
  go_ret
  exact ⟨rfl, rfl⟩


set_option maxHeartbeats 1000000 in
/-- Tables of n = 2^K sets. -/
theorem core (b0 o0 c0 b1 o1 c1 n K : Nat) (B0 B1 : Nat → Bool) (w : World) (hn : n ≤ 4096) (h1 : 1 ≤ n) (hp : n &&& (n - 1) = 0) (HK : Hid (n = 2 ^ K ∧ K ≤ 12))
    (hb0 : b0 < w.heap.size) (hc0 : Hid (∀ i, i < n → w.cell? ⟨b0, o0 + i, none⟩ = some (.bool (B0 i)))) (hb1 : b1 < w.heap.size) (hc1 : Hid (∀ i, i < n → w.cell? ⟨b1, o1 + i, none⟩ = some (.bool (B1 i)))) :
    Calls Try.prog 5 #[.slice (some ⟨b0, o0, none⟩) n c0, .slice (some ⟨b1, o1, none⟩) n c1] w fun e w' => e = .returned (.bool true) ∧ Below w.heap.size w w' := by
  have hn' : (n : Int) ≤ 4096 := by omega
  have h1' : (1 : Int) ≤ n := by omega
  have ht := pow_yes hn h1 hp
  clear hp
  go_enter Try.func5, Try.ntmps5
  go_wp2_with (go_at_call 13; refine (bytes_yes _ _ _ _ _ _ _ (by omega)).mono ?_; rintro e w' ⟨rfl, rfl⟩)
  refine (cloneB_arg hn hb0 hc0.out (Below.refl _ w)).mono ?_
  rintro e w1 ⟨d0, rfl, I1, D1⟩
  go_wp2_with fail
  refine (cloneB_arg hn hb1 hc1.out D1).mono ?_
  rintro e w2 ⟨d1, rfl, O2, E2⟩
  have I2 : Bools w2 d0 n B0 := below_bools E2 I1.lt I1
  have D2 : Below w.heap.size w w2 := next D1 D1.size E2
  clear I1 D1 E2
  go_wp2_with fail
  refine (zout_any d0 d1 n K B0 B1 w2 hn h1 HK I2 O2).mono ?_
  rintro e w3 ⟨hf, E3⟩
  have HF : Hid (Quo.Found n B0 B1 e) := hf
  obtain ⟨a, b, c, ok, he⟩ := found_shape hf
  clear hf
  subst he
  have I3 : Bools w3 d0 n B0 := below_bools E3 I2.lt I2
  have O3 : Bools w3 d1 n B1 := below_bools E3 O2.lt O2
  have D3 : Below w.heap.size w w3 := next D2 D2.size E3
  clear I2 O2 D2 E3
  go_wp2_with fail
  refine (low_any d0 d1 n K B0 B1 w3 hn h1 HK.out.1 I3 O3).mono ?_
  rintro e w4 ⟨hl, rfl⟩
  have he := same_answer HK.out.1 HF.out hl
  clear hl HF
  subst he
  go_wp2_with fail
  all_goals (go_ret; exact ⟨ret_bool (by first | rfl | simp), D3⟩)

set_option maxHeartbeats 1000000 in
/-- Empty tables. -/
theorem core_zero (a0 a1 : Option Addr) (c0 c1 : Nat) (w : World) :
    Calls Try.prog 5 #[.slice a0 0 c0, .slice a1 0 c1] w fun e w' => e = .returned (.bool true) ∧ Below w.heap.size w w' := by
  have hz := pow_zero'
  go_enter Try.func5, Try.ntmps5
  go_wp2_with (go_at_call 13; refine (bytes_yes _ _ _ _ _ _ _ (by decide)).mono ?_; rintro e w' ⟨rfl, rfl⟩)
  refine (cloneB_zero _ _ _).mono ?_
  rintro e w1 ⟨x0, rfl, D1⟩
  go_wp2_with fail
  refine (cloneB_zero _ _ _).mono ?_
  rintro e w2 ⟨x1, rfl, E2⟩
  have D2 : Below w.heap.size w w2 := next D1 D1.size E2
  clear D1 E2
  go_wp2_with fail
  refine (zout_zero _ _ _ _ _).mono ?_
  rintro e w3 ⟨rfl, E3⟩
  have D3 : Below w.heap.size w w3 := next D2 D2.size E3
  clear D2 E3
  go_wp2_with (go_at_call 16; refine (low_zero _ _ _ _ _).mono ?_; rintro e w' ⟨rfl, rfl⟩)
  go_ret
  exact ⟨rfl, D3⟩


/-! ### THE WALK -/
set_option maxHeartbeats 1000000 in
theorem walk (a0 : Option Addr) (len0 cap0 : Nat) (B0 : Nat → Bool) (a1 : Option Addr) (len1 cap1 : Nat) (B1 : Nat → Bool) (w : World) (w0 : IsRowB w a0 len0 cap0 B0) (w1 : IsRowB w a1 len1 cap1 B1) :
    Calls Try.prog 5 #[.slice a0 len0 cap0, .slice a1 len1 cap1] w fun e w' => e = .returned (.bool true) ∧ Below w.heap.size w w' := by
  have l0 := isRowB_len w0
  have l1 := isRowB_len w1
  by_cases hs : (len0 : Int) + len1 ≤ 1048576
  · by_cases h0 : (len0 : Int) ≤ 4096
    · by_cases h1 : (len1 : Int) ≤ 4096
      · by_cases he : len0 = len1
        · subst he
          by_cases hz : len0 = 0
          · subst hz
            exact core_zero a0 a1 cap0 cap1 w
          · by_cases hp : len0 &&& (len0 - 1) = 0
            · obtain ⟨K, hK, hK2⟩ := pow_of (by omega) (by omega) hp
              obtain ⟨b0, o0, rfl, hb0, hc0⟩ := isRowB_at w0 (by omega)
              obtain ⟨b1, o1, rfl, hb1, hc1⟩ := isRowB_at w1 (by omega)
              exact core b0 o0 cap0 b1 o1 cap1 len0 K B0 B1 w (by omega) (by omega) hp ⟨hK, hK2⟩ hb0 hc0 hb1 hc1
            · have ht := pow_no (by omega) (by omega) hp
              clear w0 w1 l0 l1 hp
              go_enter Try.func5, Try.ntmps5
              go_wp2_with (go_at_call 13; refine (bytes_yes _ _ _ _ _ _ _ hs).mono ?_; rintro e w' ⟨rfl, rfl⟩)
              go_ret
              exact ⟨rfl, Below.refl _ _⟩
        · have ht : ((len0 : Int) != (len1 : Int)) = true := by simp; omega
          clear w0 w1 l0 l1 he
          go_enter Try.func5, Try.ntmps5
          go_wp2_with (go_at_call 13; refine (bytes_yes _ _ _ _ _ _ _ hs).mono ?_; rintro e w' ⟨rfl, rfl⟩)
          go_ret
          exact ⟨rfl, Below.refl _ _⟩
      · clear w0 w1
        go_enter Try.func5, Try.ntmps5
        go_wp2_with (go_at_call 13; refine (bytes_yes _ _ _ _ _ _ _ hs).mono ?_; rintro e w' ⟨rfl, rfl⟩)
        go_ret
        exact ⟨rfl, Below.refl _ _⟩
    · clear w0 w1
      go_enter Try.func5, Try.ntmps5
      go_wp2_with (go_at_call 13; refine (bytes_yes _ _ _ _ _ _ _ hs).mono ?_; rintro e w' ⟨rfl, rfl⟩)
      go_ret
      exact ⟨rfl, Below.refl _ _⟩
  · clear w0 w1
    go_enter Try.func5, Try.ntmps5
    go_wp2_with (go_at_call 13; refine (bytes_no _ _ _ _ _ _ _ l0 l1 hs).mono ?_; rintro e w' ⟨rfl, rfl⟩)
    go_ret
    exact ⟨rfl, Below.refl _ _⟩

/-! ### THE ROW's STEP -/
set_option maxRecDepth 100000 in
theorem lifted (os : Os) (started : os.Started) (H : Type) (enc : TypeId × Value → H) :
    ReturnsInHanded {} Try.checked os 5 .any (Rows.fnOutsideTwoQuorumsIsLowestSplitSpec.pre6 enc Try.prog Try.f5 Rows.fnOutsideTwoQuorumsIsLowestSplitRow.domain false) (Rows.fnOutsideTwoQuorumsIsLowestSplitSpec.post enc Try.prog Try.f5 false true false false) := by
  refine returnsInHanded_of_change (C := Try.checked) own started (by kernel_rfl) Try.func5
    (ChangeSpec.witness6 (enc := enc) (C := Try.checked) false ⟨#[], #[.slice none 0 0, .slice none 0 0], []⟩ 8 (by kernel_rfl) (by kernel_rfl) (by kernel_rfl) (by kernel_rfl)) ?_
  intro W base args ds gs before hval0 hW hcnd _
  have hval : ∀ (j : Nat) t v, Try.f5.params[j]? = some t → args[j]? = some v → Value.okWide Try.prog W .any base t v := hval0
  have hW' := hW
  obtain ⟨p, q, hA0, hV, rfl, hfz, hnd⟩ := hW
  have hA : DataW.TrodAll enc Try.prog W 0 (fun _ => true) true Try.f5.params.toList args.toList ds p := hA0
  rw [Try.params5] at hA hval
  obtain ⟨v0, vs0, d0, ds0, p0, q0, hargs, rfl, rfl, h0, r0⟩ := trodAll_cons hA
  obtain ⟨v1, vs1, d1, ds1, p1, q1, rfl, rfl, rfl, h1, r1⟩ := trodAll_cons r0
  obtain ⟨rfl, rfl, rfl⟩ := trodAll_nil r1
  obtain rfl : args = #[v0, v1] := by cases args; simp_all
  obtain ⟨rfl, rfl⟩ := trodVars_none hV
  obtain ⟨a0, len0, cap0, rfl⟩ := okWide_slice Try.underlying30 (hval 0 30 v0 rfl rfl)
  obtain ⟨a1, len1, cap1, rfl⟩ := okWide_slice Try.underlying30 (hval 1 30 v1 rfl rfl)
  have k0 := h0
  have k1 := h1
  have lt0 : ∀ x ∈ p0, x.block < W.heap.size := by obtain ⟨m, hm⟩ := k0; exact DataW.trod_lt m _ _ _ hm
  have lt1 : ∀ x ∈ p1, x.block < W.heap.size := by obtain ⟨m, hm⟩ := k1; exact DataW.trod_lt m _ _ _ hm
  obtain ⟨B0, w0⟩ := open_arg h0
  obtain ⟨B1, w1⟩ := open_arg h1
  clear hA0 hval0
  refine (walk a0 len0 cap0 B0 a1 len1 cap1 B1 W w0 w1).mono fun e W' ⟨he, bel⟩ => ?_
  subst he
  exact ⟨_, rfl, _, _, _, [], _, [], hW', trodAll_mk1 (shut_bool Try.underlying4 _), (trodAll_cons_mk (Below.trod laidOut (by kernel_rfl) (of_decide_eq_true (by kernel_rfl)) k0 bel lt0) (trodAll_cons_mk (Below.trod laidOut (by kernel_rfl) (of_decide_eq_true (by kernel_rfl)) k1 bel lt1) trodAll_mk0)), rfl, bel.frame _, fun h => by cases h⟩

theorem over : Rows.fnOutsideTwoQuorumsIsLowestSplitRow.holds Try.pinned (OpenSpec.ofChange Rows.fnOutsideTwoQuorumsIsLowestSplitSpec) :=
  OpenClaim.holds_of_wide 5 Try.f5 rfl rfl rfl rfl rfl rfl rfl ⟨rfl, rfl, rfl, rfl, rfl⟩ rfl rfl rfl rfl rfl (by kernel_rfl) Try.func5 (by kernel_rfl)
    (of_decide_eq_true (by kernel_rfl)) (by unfold Func.isWrapper; first | (rw [if_pos (by decide +kernel)]; kernel_rfl) | (rw [if_neg (by decide +kernel)]; exact ⟨rfl, rfl⟩))
    (fun os started H enc _ => lifted os started H enc)

/-- THE STATEMENT -/
theorem proved : Rows.FnOutsideTwoQuorumsIsLowestSplitSaid := over
end Go.Proofs.Qxb6605532a.fnOutsideTwoQuorumsIsLowestSplit
