/-
  The proof of Rows.FnOutsideTwoQuorumsFindsThreeWithNoCommonAcceptorSaid. The frame is turned from the one that proof-skeleton writes for slices of integers; the walk is ours.
-/
import Derived.Test.Qxb6605532aRows
import Derived.Test.Qxb6605532aQuo3
import Derived.WalkKit
import Derived.ProofKit
import Derived.OpenShut
import Derived.ShutString
import Derived.ChangeOld
import Derived.Below
namespace Go.Proofs.Qxb6605532a.fnOutsideTwoQuorumsFindsThreeWithNoCommonAcceptor
open Go.ChangeShapes Go.WideShapes Go.ChangeAt Go.RowKit
open Go.Proofs.Qxb6605532a.Mem Go.Proofs.Qxb6605532a.Walk Go.Proofs.Qxb6605532a.Quo
set_option linter.unusedVariables false

theorem own : ownKnob Try.prog.godebug = none := by kernel_rfl
theorem laidOut : laidOutB Try.prog = true := by kernel_rfl

theorem bytes_no (a c : Option Addr) (n p m q : Nat) (w : World) (hn : n ≤ maxLen) (hm : m ≤ maxLen) (h : ¬ (n : Int) + m ≤ 1048576) :
    Calls Try.prog 17 #[.slice a n p, .slice c m q] w fun e w' => e = .returned (.bool false) ∧ w = w' := by
  unfold maxLen at hn hm
  by_cases h1 : (n : Int) ≤ 1048576
  · by_cases h2 : (m : Int) ≤ 1048576
    all_goals
      go_enter Try.func17, Try.ntmps17
      go_wp2
      go_ret
      exact ⟨rfl, rfl⟩
  · go_enter Try.func17, Try.ntmps17
    go_wp2
    go_ret
    exact ⟨rfl, rfl⟩

theorem bytes_yes (a c : Option Addr) (n p m q : Nat) (w : World) (h : (n : Int) + m ≤ 1048576) :
    Calls Try.prog 17 #[.slice a n p, .slice c m q] w fun e w' => e = .returned (.bool true) ∧ w = w' := by
  go_enter Try.func17, Try.ntmps17
  go_wp2
  go_ret
  exact ⟨rfl, rfl⟩


open Go.Proofs.Qxb6605532a.Plain (R P)

theorem r_inner {n : Nat} {inner outer : Nat → Bool} {k : Nat} (h : ∀ x y, x < k → ¬ R n inner outer x y) (h2 : ∀ y, ¬ R n inner outer k y) : ∀ x y, x < k + 1 → ¬ R n inner outer x y := by
  intro x y hx hr
  by_cases e : x = k
  · subst e; exact h2 y hr
  · exact h x y (by omega) hr
theorem r_step {n : Nat} {inner outer : Nat → Bool} {k m : Nat} (h : ∀ y, y < m → ¬ R n inner outer k y) (h2 : ¬ R n inner outer k m) : ∀ y, y < m + 1 → ¬ R n inner outer k y := by
  intro y hy hr
  by_cases e : y = m
  · subst e; exact h2 hr
  · exact h y (by omega) hr

theorem found_yes {n K : Nat} {inner outer : Nat → Bool} {a b c : Int} {ok : Bool} (hK : n = 2 ^ K) (up : Plain.Up n outer) (he : ∃ x y, R n inner outer x y)
    (hf : Quo.Found n inner outer (.returned (.tuple #[.int .u64 a, .int .u64 b, .int .u64 c, .bool ok]))) :
    ∃ x y, P n inner outer x y ∧ a = (x : Int) ∧ b = (Plain.diff (n - 1) y : Int) ∧ c = (Plain.diff (n - 1) (Plain.diff x y) : Int) ∧ ok = true := by
  rcases hf with ⟨x, y, hp, _, _, heq⟩ | ⟨hno, _⟩
  · simp at heq
    exact ⟨x, y, hp, heq⟩
  · obtain ⟨x, y, hr⟩ := he
    subst hK
    exact absurd (Plain.P_of_R up hr) (hno _ _)
theorem found_no {n K : Nat} {inner outer : Nat → Bool} {a b c : Int} {ok : Bool} (hK : n = 2 ^ K) (hn : ∀ x y, ¬ R n inner outer x y)
    (hf : Quo.Found n inner outer (.returned (.tuple #[.int .u64 a, .int .u64 b, .int .u64 c, .bool ok]))) : a = 0 ∧ b = 0 ∧ c = 0 ∧ ok = false := by
  rcases hf with ⟨x, y, hp, _, _, _⟩ | ⟨_, heq⟩
  · subst hK
    exact absurd (Plain.R_of_P hp) (hn _ _)
  · simpa using heq

set_option maxHeartbeats 4000000 in
/-- Tables of n = 2^K sets. -/
theorem core (b0 o0 c0 b1 o1 c1 n K : Nat) (B0 B1 : Nat → Bool) (w : World) (hn : n ≤ 4096) (h1 : 1 ≤ n) (hp : n &&& (n - 1) = 0) (HK : Hid (n = 2 ^ K ∧ K ≤ 12))
    (hb0 : b0 < w.heap.size) (hc0 : Hid (∀ i, i < n → w.cell? ⟨b0, o0 + i, none⟩ = some (.bool (B0 i)))) (hb1 : b1 < w.heap.size) (hc1 : Hid (∀ i, i < n → w.cell? ⟨b1, o1 + i, none⟩ = some (.bool (B1 i)))) :
    Calls Try.prog 6 #[.slice (some ⟨b0, o0, none⟩) n c0, .slice (some ⟨b1, o1, none⟩) n c1] w fun e w' => e = .returned (.bool true) ∧ Below w.heap.size w w' := by
  have hn' : (n : Int) ≤ 4096 := by omega
  have h1' : (1 : Int) ≤ n := by omega
  have ht := pow_yes hn h1 hp
  clear hp
  go_enter Try.func6, Try.ntmps6
  go_wp2_with (go_at_call 17; refine (bytes_yes _ _ _ _ _ _ _ (by omega)).mono ?_; rintro e w' ⟨rfl, rfl⟩)
  refine (up_any b1 o1 n c1 K B1 w hn h1 HK.out.1 hc1).mono ?_
  rintro e w' ⟨rfl, r, rfl, hup⟩
  have HUP : Hid (r = true → Plain.Up n B1) := hup
  clear hup
  cases r with
  | false =>
    go_wp2_with fail
    go_ret
    exact ⟨rfl, Below.refl _ _⟩
  | true =>
    have HU : Hid (Plain.Up n B1) := HUP.out rfl
    clear HUP
    go_wp2_with fail
    refine (cloneB_arg hn hb0 hc0.out (Below.refl _ w)).mono ?_
    rintro e w1 ⟨d0, rfl, I1, D1⟩
    go_wp2_with fail
    refine (cloneB_arg hn hb1 hc1.out D1).mono ?_
    rintro e w2 ⟨d1, rfl, O2, E2⟩
    have I2 : Bools w2 d0 n B0 := below_bools E2 I1.lt I1
    have D2 : Below w.heap.size w w2 := next D1 D1.size E2
    clear I1 D1 E2
    go_wp2_with fail
    refine (zout_any d0 d1 n K B0 B1 w2 hn h1 HK I2 O2).mono ?_
    rintro e w3 ⟨hf, E3⟩
    have HF : Hid (Quo.Found n B0 B1 e) := hf
    obtain ⟨a, b, c, ok, he⟩ := found_shape hf
    clear hf
    subst he
    have I3 : Bools w3 d0 n B0 := below_bools E3 I2.lt I2
    have O3 : Bools w3 d1 n B1 := below_bools E3 O2.lt O2
    have D3 : Below w.heap.size w w3 := next D2 D2.size E3
    clear I2 O2 D2 E3
    go_wp2_with fail
    go_loop [11, 12] (fun v u => ∃ (k : Nat) (ex : Bool), k ≤ n ∧ u = .int .i64 k ∧ v = .bool ex ∧ (ex = false → ∀ x y, x < k → ¬ R n B0 B1 x y) ∧ (ex = true → ∃ x y, R n B0 B1 x y)) (fun _ u => n - (intOf u).toNat)
    case atStart => exact ⟨0, false, by omega, rfl, rfl, fun _ x y h => by omega, fun h => by cases h⟩
    case round =>
      obtain ⟨k, ex, hk, rfl, rfl, hno, hyes⟩ := hrel
      have HN : Hid (ex = false → ∀ x y, x < k → ¬ R n B0 B1 x y) := hno
      have HY : Hid (ex = true → ∃ x y, R n B0 B1 x y) := hyes
      clear hno hyes
      cases ex with
      | true =>
        have HE : Hid (∃ x y, R n B0 B1 x y) := HY.out rfl
        clear HN HY
        obtain ⟨x, y, hp, rfl, rfl, rfl, rfl⟩ := found_yes HK.out.1 HU.out HE.out HF.out
        clear HE HF
        have q1 : x < n := hp.1
        have q2 := dif_lt n y h1
        have q3 := dif_lt n (Plain.diff x y) h1
        have g1 := I3.cell q1
        have g2 := O3.cell q2
        have g3 := O3.cell q3
        rw [hp.2.1] at g1
        rw [hp.2.2.2.1] at g2
        rw [hp.2.2.2.2] at g3
        have z1 := bits_and_u64_nat x (Plain.diff (n - 1) y) (by omega) (by omega)
        have z2 := bits_and_u64_nat (x &&& Plain.diff (n - 1) y) (Plain.diff (n - 1) (Plain.diff x y)) (by have : x &&& Plain.diff (n - 1) y ≤ x := Nat.and_le_left; omega) (by omega)
        rw [Plain.three_apart] at z2
        obtain ⟨β, hβ⟩ : ∃ β, β = Plain.diff (n - 1) y := ⟨_, rfl⟩
        obtain ⟨γ, hγ⟩ : ∃ γ, γ = Plain.diff (n - 1) (Plain.diff x y) := ⟨_, rfl⟩
        rw [← hβ] at q2 g2 z1 z2 ⊢
        rw [← hγ] at q3 g3 z2 ⊢
        clear hβ hγ hp
        obtain ⟨δ, hδ⟩ : ∃ δ, δ = x &&& β := ⟨_, rfl⟩
        rw [← hδ] at z1 z2
        clear hδ
        have q1' : (x : Int) < n := by omega
        have q2' : (β : Int) < n := by omega
        have q3' : (γ : Int) < n := by omega
        simp only [Int.natCast_zero] at z2
        by_cases hlt : k < n
        all_goals
          go_wp2_with fail
          go_ret
          exact ⟨rfl, D3⟩
      | false =>
        have HX : Hid (∀ x y, x < k → ¬ R n B0 B1 x y) := HN.out rfl
        clear HN HY
        by_cases hlt : k < n
        · have hci := I3.cell hlt
          by_cases hin : B0 k = true
          · rw [hin] at hci
            have HI : Hid (B0 k = true) := hin
            clear hin
            go_wp2_with fail
            go_loop [11, 13] (fun v u => ∃ m : Nat, m ≤ n ∧ u = .int .i64 m ∧ v = .bool false ∧ ∀ y, y < m → ¬ R n B0 B1 k y) (fun _ u => n - (intOf u).toNat)
            case atStart => exact ⟨0, by omega, rfl, rfl, fun y h => by omega⟩
            case round =>
              obtain ⟨m, hm, rfl, rfl, hmo⟩ := hrel
              have HM : Hid (∀ y, y < m → ¬ R n B0 B1 k y) := hmo
              clear hmo
              by_cases hml : m < n
              · have c1 := O3.cell hml
                by_cases o1 : B1 m = true
                · rw [o1] at c1
                  have O1 : Hid (B1 m = true) := o1
                  clear o1
                  have a1 := i64_and k m (by omega) (by omega)
                  have hle : k &&& m ≤ k := Nat.and_le_left
                  obtain ⟨q, hq⟩ : ∃ q, q = k &&& m := ⟨_, rfl⟩
                  rw [← hq] at a1 hle
                  have HQ : Hid (q = k &&& m) := hq
                  clear hq
                  have a2 := and_not n q hn h1 (by omega)
                  have d2 := dif_lt n q h1
                  obtain ⟨z, hz⟩ : ∃ z, z = Plain.diff (n - 1) q := ⟨_, rfl⟩
                  rw [← hz] at a2 d2
                  have HZ : Hid (z = Plain.diff (n - 1) q) := hz
                  clear hz
                  have d2' : (z : Int) < n := by omega
                  have c2 := O3.cell d2
                  by_cases o2 : B1 z = true
                  · rw [o2] at c2
                    have HR : Hid (R n B0 B1 k m) := ⟨hlt, HI.out, hml, O1.out, by rw [← HQ.out, ← HZ.out]; exact o2⟩
                    clear o2
                    go_wp2_with fail
                    go_round
                    case rel => exact ⟨k + 1, true, by omega, by go_num, rfl, (fun h => by cases h), fun _ => ⟨k, m, HR.out⟩⟩
                    case measure => simp [intOf]; omega
                  · have o2' : B1 z = false := by simpa using o2
                    rw [o2'] at c2
                    have HR : Hid (¬ R n B0 B1 k m) := fun hr => o2 (by have := hr.2.2.2.2; rwa [← HQ.out, ← HZ.out] at this)
                    clear o2 o2'
                    go_wp2_with fail
                    go_round
                    case rel => exact ⟨m + 1, by omega, by go_num, rfl, r_step HM.out HR.out⟩
                    case measure => simp [intOf]; omega
                · have o1' : B1 m = false := by simpa using o1
                  rw [o1'] at c1
                  have HR : Hid (¬ R n B0 B1 k m) := fun hr => o1 hr.2.2.2.1
                  clear o1 o1'
                  go_wp2_with fail
                  go_round
                  case rel => exact ⟨m + 1, by omega, by go_num, rfl, r_step HM.out HR.out⟩
                  case measure => simp [intOf]; omega
              · go_wp2_with fail
                go_round
                case rel => exact ⟨k + 1, false, by omega, by go_num, rfl, fun _ => r_inner HX.out (fun y hr => HM.out y (by have := hr.2.2.1; omega) hr), fun h => by cases h⟩
                case measure => simp [intOf]; omega
          · have hin' : B0 k = false := by simpa using hin
            rw [hin'] at hci
            have HR : Hid (∀ y, ¬ R n B0 B1 k y) := fun y hr => hin hr.2.1
            clear hin hin'
            go_wp2_with fail
            go_round
            case rel => exact ⟨k + 1, false, by omega, by go_num, rfl, fun _ => r_inner HX.out HR.out, fun h => by cases h⟩
            case measure => simp [intOf]; omega
        · obtain ⟨rfl, rfl, rfl, rfl⟩ := found_no HK.out.1 (fun x y hr => HX.out x y (by have := hr.1; omega) hr) HF.out
          clear HF
          go_wp2_with fail
          go_ret
          exact ⟨rfl, D3⟩

set_option maxHeartbeats 1000000 in
/-- Empty tables. -/
theorem core_zero (a0 a1 : Option Addr) (c0 c1 : Nat) (w : World) :
    Calls Try.prog 6 #[.slice a0 0 c0, .slice a1 0 c1] w fun e w' => e = .returned (.bool true) ∧ Below w.heap.size w w' := by
  have hz := pow_zero'
  go_enter Try.func6, Try.ntmps6
  go_wp2_with (first | (go_at_call 17; refine (bytes_yes _ _ _ _ _ _ _ (by decide)).mono ?_; rintro e w' ⟨rfl, rfl⟩) | (go_at_call 18; refine (up_zero _ _ _).mono ?_; rintro e w' ⟨rfl, rfl⟩))
  refine (cloneB_zero _ _ _).mono ?_
  rintro e w1 ⟨x0, rfl, D1⟩
  go_wp2_with fail
  refine (cloneB_zero _ _ _).mono ?_
  rintro e w2 ⟨x1, rfl, E2⟩
  have D2 : Below w.heap.size w w2 := next D1 D1.size E2
  clear D1 E2
  go_wp2_with fail
  refine (zout_zero _ _ _ _ _).mono ?_
  rintro e w3 ⟨rfl, E3⟩
  have D3 : Below w.heap.size w w3 := next D2 D2.size E3
  clear D2 E3
  go_wp2_with fail
  refine wp_loop_rounds 1 ?_
  rw [rounds_succ]
  go_wp2_with fail
  go_ret
  exact ⟨rfl, D3⟩


/-! ### THE WALK -/
set_option maxHeartbeats 1000000 in
theorem walk (a0 : Option Addr) (len0 cap0 : Nat) (B0 : Nat → Bool) (a1 : Option Addr) (len1 cap1 : Nat) (B1 : Nat → Bool) (w : World) (w0 : IsRowB w a0 len0 cap0 B0) (w1 : IsRowB w a1 len1 cap1 B1) :
    Calls Try.prog 6 #[.slice a0 len0 cap0, .slice a1 len1 cap1] w fun e w' => e = .returned (.bool true) ∧ Below w.heap.size w w' := by
  have l0 := isRowB_len w0
  have l1 := isRowB_len w1
  by_cases hs : (len0 : Int) + len1 ≤ 1048576
  · by_cases h0 : (len0 : Int) ≤ 4096
    · by_cases h1 : (len1 : Int) ≤ 4096
      · by_cases he : len0 = len1
        · subst he
          by_cases hz : len0 = 0
          · subst hz
            exact core_zero a0 a1 cap0 cap1 w
          · by_cases hp : len0 &&& (len0 - 1) = 0
            · obtain ⟨K, hK, hK2⟩ := pow_of (by omega) (by omega) hp
              obtain ⟨b0, o0, rfl, hb0, hc0⟩ := isRowB_at w0 (by omega)
              obtain ⟨b1, o1, rfl, hb1, hc1⟩ := isRowB_at w1 (by omega)
              exact core b0 o0 cap0 b1 o1 cap1 len0 K B0 B1 w (by omega) (by omega) hp ⟨hK, hK2⟩ hb0 hc0 hb1 hc1
            · have ht := pow_no (by omega) (by omega) hp
              clear w0 w1 l0 l1 hp
              go_enter Try.func6, Try.ntmps6
              go_wp2_with (go_at_call 17; refine (bytes_yes _ _ _ _ _ _ _ hs).mono ?_; rintro e w' ⟨rfl, rfl⟩)
              go_ret
              exact ⟨rfl, Below.refl _ _⟩
        · have ht : ((len0 : Int) != (len1 : Int)) = true := by simp; omega
          clear w0 w1 l0 l1 he
          go_enter Try.func6, Try.ntmps6
          go_wp2_with (go_at_call 17; refine (bytes_yes _ _ _ _ _ _ _ hs).mono ?_; rintro e w' ⟨rfl, rfl⟩)
          go_ret
          exact ⟨rfl, Below.refl _ _⟩
      · clear w0 w1
        go_enter Try.func6, Try.ntmps6
        go_wp2_with (go_at_call 17; refine (bytes_yes _ _ _ _ _ _ _ hs).mono ?_; rintro e w' ⟨rfl, rfl⟩)
        go_ret
        exact ⟨rfl, Below.refl _ _⟩
    · clear w0 w1
      go_enter Try.func6, Try.ntmps6
      go_wp2_with (go_at_call 17; refine (bytes_yes _ _ _ _ _ _ _ hs).mono ?_; rintro e w' ⟨rfl, rfl⟩)
      go_ret
      exact ⟨rfl, Below.refl _ _⟩
  · clear w0 w1
    go_enter Try.func6, Try.ntmps6
    go_wp2_with (go_at_call 17; refine (bytes_no _ _ _ _ _ _ _ l0 l1 hs).mono ?_; rintro e w' ⟨rfl, rfl⟩)
    go_ret
    exact ⟨rfl, Below.refl _ _⟩

/-! ### THE ROW's STEP -/
set_option maxRecDepth 100000 in
theorem lifted (os : Os) (started : os.Started) (H : Type) (enc : TypeId × Value → H) :
    ReturnsInHanded {} Try.checked os 6 .any (Rows.fnOutsideTwoQuorumsFindsThreeWithNoCommonAcceptorSpec.pre6 enc Try.prog Try.f6 Rows.fnOutsideTwoQuorumsFindsThreeWithNoCommonAcceptorRow.domain false) (Rows.fnOutsideTwoQuorumsFindsThreeWithNoCommonAcceptorSpec.post enc Try.prog Try.f6 false true false false) := by
  refine returnsInHanded_of_change (C := Try.checked) own started (by kernel_rfl) Try.func6
    (ChangeSpec.witness6 (enc := enc) (C := Try.checked) false ⟨#[], #[.slice none 0 0, .slice none 0 0], []⟩ 8 (by kernel_rfl) (by kernel_rfl) (by kernel_rfl) (by kernel_rfl)) ?_
  intro W base args ds gs before hval0 hW hcnd _
  have hval : ∀ (j : Nat) t v, Try.f6.params[j]? = some t → args[j]? = some v → Value.okWide Try.prog W .any base t v := hval0
  have hW' := hW
  obtain ⟨p, q, hA0, hV, rfl, hfz, hnd⟩ := hW
  have hA : DataW.TrodAll enc Try.prog W 0 (fun _ => true) true Try.f6.params.toList args.toList ds p := hA0
  rw [Try.params6] at hA hval
  obtain ⟨v0, vs0, d0, ds0, p0, q0, hargs, rfl, rfl, h0, r0⟩ := trodAll_cons hA
  obtain ⟨v1, vs1, d1, ds1, p1, q1, rfl, rfl, rfl, h1, r1⟩ := trodAll_cons r0
  obtain ⟨rfl, rfl, rfl⟩ := trodAll_nil r1
  obtain rfl : args = #[v0, v1] := by cases args; simp_all
  obtain ⟨rfl, rfl⟩ := trodVars_none hV
  obtain ⟨a0, len0, cap0, rfl⟩ := okWide_slice Try.underlying30 (hval 0 30 v0 rfl rfl)
  obtain ⟨a1, len1, cap1, rfl⟩ := okWide_slice Try.underlying30 (hval 1 30 v1 rfl rfl)
  have k0 := h0
  have k1 := h1
  have lt0 : ∀ x ∈ p0, x.block < W.heap.size := by obtain ⟨m, hm⟩ := k0; exact DataW.trod_lt m _ _ _ hm
  have lt1 : ∀ x ∈ p1, x.block < W.heap.size := by obtain ⟨m, hm⟩ := k1; exact DataW.trod_lt m _ _ _ hm
  obtain ⟨B0, w0⟩ := open_arg h0
  obtain ⟨B1, w1⟩ := open_arg h1
  clear hA0 hval0
  refine (walk a0 len0 cap0 B0 a1 len1 cap1 B1 W w0 w1).mono fun e W' ⟨he, bel⟩ => ?_
  subst he
  exact ⟨_, rfl, _, _, _, [], _, [], hW', trodAll_mk1 (shut_bool Try.underlying4 _), (trodAll_cons_mk (Below.trod laidOut (by kernel_rfl) (of_decide_eq_true (by kernel_rfl)) k0 bel lt0) (trodAll_cons_mk (Below.trod laidOut (by kernel_rfl) (of_decide_eq_true (by kernel_rfl)) k1 bel lt1) trodAll_mk0)), rfl, bel.frame _, fun h => by cases h⟩

theorem over : Rows.fnOutsideTwoQuorumsFindsThreeWithNoCommonAcceptorRow.holds Try.pinned (OpenSpec.ofChange Rows.fnOutsideTwoQuorumsFindsThreeWithNoCommonAcceptorSpec) :=
  OpenClaim.holds_of_wide 6 Try.f6 rfl rfl rfl rfl rfl rfl rfl ⟨rfl, rfl, rfl, rfl, rfl⟩ rfl rfl rfl rfl rfl (by kernel_rfl) Try.func6 (by kernel_rfl)
    (of_decide_eq_true (by kernel_rfl)) (by unfold Func.isWrapper; first | (rw [if_pos (by decide +kernel)]; kernel_rfl) | (rw [if_neg (by decide +kernel)]; exact ⟨rfl, rfl⟩))
    (fun os started H enc _ => lifted os started H enc)

/-- THE STATEMENT -/
theorem proved : Rows.FnOutsideTwoQuorumsFindsThreeWithNoCommonAcceptorSaid := over
end Go.Proofs.Qxb6605532a.fnOutsideTwoQuorumsFindsThreeWithNoCommonAcceptor
