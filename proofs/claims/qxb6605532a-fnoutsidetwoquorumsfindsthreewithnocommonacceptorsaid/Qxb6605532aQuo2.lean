/-
  MORE WALKS FOR THE QUORUM LAWS: empty tables; ZZoutsideTwoQuorums (15); cloneBools (14); lowestSplit (16).
-/
import Derived.Test.Qxb6605532aQuo
namespace Go.Proofs.Qxb6605532a.Quo
open Go.RowKit Go.Proofs.Qxb6605532a.Mem Go.Proofs.Qxb6605532a.Walk
open Go.Proofs.Qxb6605532a.Plain (P Q)

/-! ### Empty tables -/
theorem out_zero (a c : Option Addr) (p q : Nat) (w : World) :
    Calls Try.prog 21 #[.slice a 0 p, .slice c 0 q] w fun e w' => e = .returned (.tuple #[.int .u64 0, .int .u64 0, .int .u64 0, .bool false]) ∧ Below w.heap.size w w' := by
  have hmk := make_words 0 (by omega)
  simp only [Int.natCast_zero] at hmk
  have hs := fun (w : World) => sum_any false w.heap.size 0 (fun _ => 0) (w.alloc (.cells (row 0 (fun _ => 0)) 29)) (by omega) (words_alloc w 0 _)
  go_enter Try.func21, Try.ntmps21
  go_wp2_with fail
  refine wp_loop_rounds 1 ?_
  rw [rounds_succ]
  go_wp2_with fail
  refine (sum_any false w.heap.size 0 (fun _ => 0) _ (by omega) (words_alloc w 0 _)).mono ?_
  rintro e w2 ⟨rfl, W2, U2⟩
  have D2 : Below w.heap.size w w2 := (alloc_below w _).trans (U2.below (Nat.le_refl _))
  clear U2 hs hmk
  go_wp2_with fail
  refine wp_loop_rounds 1 ?_
  rw [rounds_succ]
  go_wp2_with fail
  refine (sum_any true w.heap.size 0 _ _ (by omega) W2).mono ?_
  rintro e w4 ⟨rfl, W4, U4⟩
  have D4 : Below w.heap.size w w4 := D2.trans (U4.below (Nat.le_refl _))
  clear U4
  go_wp2_with fail
  refine wp_loop_rounds 1 ?_
  rw [rounds_succ]
  go_wp2_with fail
  exact bodyPost_ret (v := .tuple #[.int .u64 0, .int .u64 0, .int .u64 0, .bool false]) (by simp [results, Try.results21, go_sem]) rfl ⟨rfl, D4⟩

theorem low_zero (a c : Option Addr) (p q : Nat) (w : World) :
    Calls Try.prog 16 #[.slice a 0 p, .slice c 0 q] w fun e w' => e = .returned (.tuple #[.int .u64 0, .int .u64 0, .int .u64 0, .bool false]) ∧ w = w' := by
  go_enter Try.func16, Try.ntmps16
  go_wp2_with fail
  refine wp_loop_rounds 1 ?_
  rw [rounds_succ]
  go_wp2_with fail
  exact bodyPost_ret (v := .tuple #[.int .u64 0, .int .u64 0, .int .u64 0, .bool false]) (by simp [results, Try.results16, go_sem]) rfl ⟨rfl, rfl⟩

/-! ### The hand-out -/
theorem zout_zero (a c : Option Addr) (p q : Nat) (w : World) :
    Calls Try.prog 15 #[.slice a 0 p, .slice c 0 q] w fun e w' => e = .returned (.tuple #[.int .u64 0, .int .u64 0, .int .u64 0, .bool false]) ∧ Below w.heap.size w w' := by
  go_enter Try.func15, Try.ntmps15
  go_wp2_with (go_at_call 21; refine (out_zero _ _ _ _ _).mono ?_; rintro e w' ⟨rfl, hb⟩)
  exact bodyPost_ret (v := .tuple #[.int .u64 0, .int .u64 0, .int .u64 0, .bool false]) (by simp [results, Try.results15, go_sem]) rfl ⟨rfl, hb⟩

theorem found_shape {n : Nat} {inner outer : Nat → Bool} {e : Ending} (h : Found n inner outer e) : ∃ a b c : Int, ∃ ok : Bool, e = .returned (.tuple #[.int .u64 a, .int .u64 b, .int .u64 c, .bool ok]) := by
  rcases h with ⟨a, y, _, _, _, rfl⟩ | ⟨_, rfl⟩
  · exact ⟨_, _, _, _, rfl⟩
  · exact ⟨0, 0, 0, false, rfl⟩

theorem zout_any (bi bo n K : Nat) (inner outer : Nat → Bool) (w : World) (hn : n ≤ 4096) (h1 : 1 ≤ n) (HK : Hid (n = 2 ^ K ∧ K ≤ 12)) (hbi : Bools w bi n inner) (hbo : Bools w bo n outer) :
    Calls Try.prog 15 #[.slice (some ⟨bi, 0, none⟩) n n, .slice (some ⟨bo, 0, none⟩) n n] w fun e w' => Found n inner outer e ∧ Below w.heap.size w w' := by
  go_enter Try.func15, Try.ntmps15
  go_wp2_with fail
  refine (out_any bi bo n K inner outer _ hn h1 HK hbi hbo).mono ?_
  rintro e w' ⟨hf, hb⟩
  have HF : Hid (Found n inner outer e) := hf
  obtain ⟨a, b, c, ok, he⟩ := found_shape hf
  clear hf
  subst he
  go_wp2_with fail
  exact bodyPost_ret (v := .tuple #[.int .u64 a, .int .u64 b, .int .u64 c, .bool ok]) (by simp [results, Try.results15, go_sem]) rfl ⟨HF.out, hb⟩

/-! ### cloneBools -/
theorem info4 : (Try.prog.info? 4).map (fun i => (i.zero, i.size, i.bytes)) = some (some (.bool false), 1, 1) := by kernel_rfl
theorem make_bools (n : Nat) (hn : n ≤ 4096) (w : World) :
    (Instr.makeSlice 30 (.int .i64 (n : Int)) (.int .i64 (n : Int))).run Try.prog w = .ok (.slice (some ⟨w.heap.size, 0, none⟩) n n) (w.alloc (.cells (rowB n (fun _ => false)) 4)) := by
  obtain ⟨i, hi, hz, hs, hb⟩ := info_parts info4
  have := run_make (P := Try.prog) w 30 4 i _ Try.underlying30 hi hz .i64 .i64 (n : Int) (n : Int) (by omega) (by omega) (by rw [hb]; omega) (by omega)
  rw [hs, Int.toNat_natCast, made_bools] at this
  exact this
theorem bools_alloc (w : World) (n : Nat) (f : Nat → Bool) : Bools (w.alloc (.cells (rowB n f) 4)) w.heap.size n f := by
  show (w.heap.push _)[w.heap.size]? = _
  simp
theorem step_ifB (f : Nat → Bool) (z : Bool) (j k : Nat) : (if j = k then f k else if j < k then f j else z) = if j < k + 1 then f j else z := by
  by_cases h1 : j = k
  · subst h1; simp
  · by_cases h2 : j < k
    · rw [if_neg h1, if_pos h2, if_pos (by omega)]
    · rw [if_neg h1, if_neg h2, if_neg (by omega)]

/-- An empty slice, nil or not. -/
theorem cloneB_zero (a : Option Addr) (cap : Nat) (w : World) :
    Calls Try.prog 14 #[.slice a 0 cap] w fun e w' => ∃ (a' : Option Addr), e = .returned (.slice a' 0 0) ∧ Below w.heap.size w w' := by
  have hmk := make_bools 0 (by omega)
  simp only [Int.natCast_zero] at hmk
  cases a with
  | none =>
    have hq : ∀ w : World, (binOp .eql 30 (.slice none 0 cap) (.slice none 0 0)).run Try.prog w = .ok (.bool true) w := fun w => Lib.run_eql_slice_nil w 30 4 none 0 cap 0 0 Try.underlying30
    go_enter Try.func14, Try.ntmps14
    go_wp2
    go_ret
    exact ⟨none, rfl, Below.refl _ _⟩
  | some x =>
    have hq : ∀ w : World, (binOp .eql 30 (.slice (some x) 0 cap) (.slice none 0 0)).run Try.prog w = .ok (.bool false) w := fun w => Lib.run_eql_slice_nil w 30 4 (some x) 0 cap 0 0 Try.underlying30
    go_enter Try.func14, Try.ntmps14
    go_wp2
    refine wp_loop_rounds 1 ?_
    rw [rounds_succ]
    go_wp2
    go_ret
    exact ⟨_, rfl, alloc_below w _⟩

set_option maxHeartbeats 400000 in
theorem cloneB_any (b off n cap : Nat) (f : Nat → Bool) (w : World) (hn : n ≤ 4096) (hsrc : ∀ i, i < n → w.cell? ⟨b, off + i, none⟩ = some (.bool (f i))) (hb : b < w.heap.size) :
    Calls Try.prog 14 #[.slice (some ⟨b, off, none⟩) n cap] w fun e w' => ∃ c, e = .returned (.slice (some ⟨c, 0, none⟩) n n) ∧ Bools w' c n f ∧ Below w.heap.size w w' := by
  have hq : ∀ w : World, (binOp .eql 30 (.slice (some ⟨b, off, none⟩) n cap) (.slice none 0 0)).run Try.prog w = .ok (.bool false) w := fun w => Lib.run_eql_slice_nil w 30 4 (some _) n cap 0 0 Try.underlying30
  have hmk := make_bools n hn
  have hn' : (n : Int) ≤ 4096 := by omega
  go_enter Try.func14, Try.ntmps14
  go_wp2
  clear hq hmk
  go_loopw [4] (fun i wr => ∃ k : Nat, k ≤ n ∧ i = .int .i64 k ∧ Bools wr w.heap.size n (fun j => if j < k then f j else false) ∧ Upd w.heap.size (w.alloc (.cells (rowB n (fun _ => false)) 4)) wr) (fun i _ => n - (intOf i).toNat)
  case atStart =>
    exact ⟨0, Nat.zero_le _, rfl, (bools_alloc w n _).congr (fun i _ => by simp), Upd.refl _ _⟩
  case round =>
    obtain ⟨k, hk, rfl, hW, hU⟩ := hrel
    by_cases hlt : k < n
    · have hc : wr.cell? ⟨b, off + k, none⟩ = some (.bool (f k)) := by
        rw [((alloc_below w _).trans (hU.below (Nat.le_refl _))).cell (p := ⟨b, off + k, none⟩) hb]
        exact hsrc k hlt
      have hd := hW.cell hlt
      have hf := hW.free k
      go_wp2
      go_roundw
      case rel => exact ⟨k + 1, by omega, by go_num, (hW.set k (f k)).congr (fun j _ => step_ifB f false j k), hU.setCell k _⟩
      case measure => simp [intOf]; omega
    · go_wp2
      go_ret
      exact ⟨_, rfl, hW.congr (fun j hj => if_pos (by omega)), (alloc_below w _).trans (hU.below (Nat.le_refl _))⟩

/-! ### lowestSplit -/
/-- What lowestSplit answers. -/
def Low (n : Nat) (inner outer : Nat → Bool) (e : Ending) : Prop :=
  (∃ a b, Q n inner outer a b ∧ (∀ a' b', a' < a → ¬ Q n inner outer a' b') ∧ (∀ b', b' < b → ¬ Q n inner outer a b') ∧
    e = .returned (.tuple #[.int .u64 (a : Int), .int .u64 (b : Int), .int .u64 ((Plain.diff (n - 1) a ||| Plain.diff a b : Nat) : Int), .bool true])) ∨
  ((∀ a b, ¬ Q n inner outer a b) ∧ e = .returned (.tuple #[.int .u64 0, .int .u64 0, .int .u64 0, .bool false]))

theorem q_inner {n : Nat} {inner outer : Nat → Bool} {k : Nat} (h : ∀ a b, a < k → ¬ Q n inner outer a b) (h2 : ∀ b, ¬ Q n inner outer k b) : ∀ a b, a < k + 1 → ¬ Q n inner outer a b := by
  intro a b ha hq
  by_cases e : a = k
  · subst e; exact h2 b hq
  · exact h a b (by omega) hq
theorem q_step {n : Nat} {inner outer : Nat → Bool} {k m : Nat} (h : ∀ b, b < m → ¬ Q n inner outer k b) (h2 : ¬ Q n inner outer k m) : ∀ b, b < m + 1 → ¬ Q n inner outer k b := by
  intro b hb hq
  by_cases e : b = m
  · subst e; exact h2 hq
  · exact h b (by omega) hq

theorem test_in (m r : Nat) (hm : m ≤ 4096) (hr : r ≤ 4096) (h : Plain.Sub r m) : (bits .and .i64 (m : Int) (r : Int) != (r : Int)) = false := by
  rw [i64_and m r (by omega) (by omega), Nat.and_comm, show r &&& m = r from h]
  simp
theorem test_out (m r : Nat) (hm : m ≤ 4096) (hr : r ≤ 4096) (h : ¬ Plain.Sub r m) : (bits .and .i64 (m : Int) (r : Int) != (r : Int)) = true := by
  rw [i64_and m r (by omega) (by omega), Nat.and_comm]
  have h2 : ¬ r &&& m = r := h
  have h3 : ¬ ((r &&& m : Nat) : Int) = (r : Int) := fun e => h2 (by omega)
  simpa using h3

set_option maxHeartbeats 2000000 in
theorem low_any (bi bo n K : Nat) (inner outer : Nat → Bool) (w : World) (hn : n ≤ 4096) (h1 : 1 ≤ n) (HK : Hid (n = 2 ^ K)) (hbi : Bools w bi n inner) (hbo : Bools w bo n outer) :
    Calls Try.prog 16 #[.slice (some ⟨bi, 0, none⟩) n n, .slice (some ⟨bo, 0, none⟩) n n] w fun e w' => Low n inner outer e ∧ w = w' := by
  have hn' : (n : Int) ≤ 4096 := by omega
  have h1' : (1 : Int) ≤ n := by omega
  go_enter Try.func16, Try.ntmps16
  go_wp2_with fail
  go_loop [10] (fun v => ∃ k : Nat, k ≤ n ∧ v = .int .i64 k ∧ ∀ a b, a < k → ¬ Q n inner outer a b) (fun v => n - (intOf v).toNat)
  case atStart => exact ⟨0, by omega, rfl, fun a b h => by omega⟩
  case round =>
    obtain ⟨k, hk, rfl, hno⟩ := hrel
    have HN : Hid (∀ a b, a < k → ¬ Q n inner outer a b) := hno
    clear hno
    by_cases hlt : k < n
    · have hci := hbi.cell hlt
      by_cases hin : inner k = true
      · rw [hin] at hci
        have HI : Hid (inner k = true) := hin
        clear hin
        have a1 := and_not n k hn h1 (by omega)
        have d1 := dif_lt n k h1
        obtain ⟨r, hr⟩ : ∃ r, r = Plain.diff (n - 1) k := ⟨_, rfl⟩
        rw [← hr] at a1 d1
        have HR : Hid (r = Plain.diff (n - 1) k) := hr
        clear hr
        go_wp2_with fail
        go_loop [12] (fun v => ∃ m : Nat, m ≤ n ∧ v = .int .i64 m ∧ ∀ b, b < m → ¬ Q n inner outer k b) (fun v => n - (intOf v).toNat)
        case atStart => exact ⟨0, by omega, rfl, fun b h => by omega⟩
        case round =>
          obtain ⟨m, hm, rfl, hmo⟩ := hrel
          have HM : Hid (∀ b, b < m → ¬ Q n inner outer k b) := hmo
          clear hmo
          by_cases hml : m < n
          · have c1 := hbo.cell hml
            by_cases o1 : outer m = true
            · rw [o1] at c1
              by_cases hsub : Plain.Sub r m
              · have ht' := test_in m r (by omega) (by omega) hsub
                have a2 : bits .andNot .i64 (k : Int) (m : Int) = ((Plain.diff k m : Nat) : Int) := i64_andNot k m (by omega) (by omega)
                have dk := Plain.diff_le k m
                have a3 := i64_or r (Plain.diff k m) (by omega) (by omega)
                have d3 : r ||| Plain.diff k m < n := by rw [HK.out] at d1 hlt ⊢; exact Nat.or_lt_two_pow d1 (by omega)
                obtain ⟨c, hc⟩ : ∃ c, c = r ||| Plain.diff k m := ⟨_, rfl⟩
                rw [← hc] at a3 d3
                have HC : Hid (c = r ||| Plain.diff k m) := hc
                clear hc
                have d3' : (c : Int) < n := by omega
                have c3 := hbo.cell d3
                have O1 : Hid (outer m = true) := o1
                have HS : Hid (Plain.Sub r m) := hsub
                clear o1 hsub
                by_cases o3 : outer c = true
                · rw [o3] at c3
                  have O3 : Hid (outer c = true) := o3
                  clear o3
                  go_wp2_with fail
                  refine bodyPost_ret (v := .tuple #[.int .u64 (k : Int), .int .u64 (m : Int), .int .u64 (c : Int), .bool true]) (by simp [results, Try.results16, go_sem]) rfl ⟨.inl ⟨k, m, ?_, fun a b h => HN.out a b h, fun b h => HM.out b h, ?_⟩, rfl⟩
                  · exact ⟨hlt, HI.out, hml, O1.out, by rw [← HR.out]; exact HS.out, by rw [← HR.out, ← HC.out]; exact O3.out⟩
                  · rw [← HR.out, ← HC.out]
                · have o3' : outer c = false := by simpa using o3
                  rw [o3'] at c3
                  have HQ : Hid (¬ Q n inner outer k m) := fun hq => o3 (by have := hq.2.2.2.2.2; rwa [← HR.out, ← HC.out] at this)
                  clear o3 o3'
                  go_wp2_with fail
                  go_round
                  case rel => exact ⟨m + 1, by omega, by go_num, q_step HM.out HQ.out⟩
                  case measure => simp [intOf]; omega
              · have ht' := test_out m r (by omega) (by omega) hsub
                have HQ : Hid (¬ Q n inner outer k m) := fun hq => hsub (by rw [HR.out]; exact hq.2.2.2.2.1)
                clear hsub
                go_wp2_with fail
                go_round
                case rel => exact ⟨m + 1, by omega, by go_num, q_step HM.out HQ.out⟩
                case measure => simp [intOf]; omega
            · have o1' : outer m = false := by simpa using o1
              rw [o1'] at c1
              have HQ : Hid (¬ Q n inner outer k m) := fun hq => o1 hq.2.2.2.1
              clear o1 o1'
              go_wp2_with fail
              go_round
              case rel => exact ⟨m + 1, by omega, by go_num, q_step HM.out HQ.out⟩
              case measure => simp [intOf]; omega
          · go_wp2_with fail
            go_round
            case rel => exact ⟨k + 1, by omega, by go_num, q_inner HN.out (fun b hq => HM.out b (by have := hq.2.2.1; omega) hq)⟩
            case measure => simp [intOf]; omega
      · have hin' : inner k = false := by simpa using hin
        rw [hin'] at hci
        have HQ : Hid (∀ b, ¬ Q n inner outer k b) := fun b hq => hin hq.2.1
        clear hin hin'
        go_wp2_with fail
        go_round
        case rel => exact ⟨k + 1, by omega, by go_num, q_inner HN.out HQ.out⟩
        case measure => simp [intOf]; omega
    · go_wp2_with fail
      exact bodyPost_ret (v := .tuple #[.int .u64 0, .int .u64 0, .int .u64 0, .bool false]) (by simp [results, Try.results16, go_sem]) rfl
        ⟨.inr ⟨fun a b hq => HN.out a b (by have := hq.1; omega) hq, rfl⟩, rfl⟩

/-! ### The two answers are one -/
theorem same_answer {n K : Nat} {inner outer : Nat → Bool} {e e' : Ending} (hK : n = 2 ^ K) (hf : Found n inner outer e) (hl : Low n inner outer e') : e = e' := by
  subst hK
  rcases hf with ⟨a, y, hp, hmin, hmax, rfl⟩ | ⟨hno, rfl⟩
  · rcases hl with ⟨a', b, hq, hmin', hmin2, rfl⟩ | ⟨hno', rfl⟩
    · have hp' := Plain.Q_P hq
      have hq' := Plain.P_Q hp
      have ea : a = a' := by
        rcases Nat.lt_trichotomy a a' with h | h | h
        · exact absurd hq' (hmin' _ _ h)
        · exact h
        · exact absurd hp' (hmin _ _ h)
      subst ea
      have hyl : y < 2 ^ K := Nat.lt_of_le_of_lt (Plain.sub_le hp.2.2.1) hp.1
      have eb : b = Plain.diff (2 ^ K - 1) y := by
        rcases Nat.lt_trichotomy b (Plain.diff (2 ^ K - 1) y) with h | h | h
        · have h2 := Plain.compl_anti hq.2.2.1 (Plain.compl_lt K y) h
          rw [Plain.compl_compl hyl] at h2
          exact absurd hp' (hmax _ h2)
        · exact h
        · exact absurd hq' (hmin2 _ h)
      subst eb
      rw [Plain.third_eq hp.1 hp.2.2.1]
    · exact absurd (Plain.P_Q hp) (hno' _ _)
  · rcases hl with ⟨a', b, hq, _, _, rfl⟩ | ⟨_, rfl⟩
    · exact absurd (Plain.Q_P hq) (hno _ _)
    · rfl

end Go.Proofs.Qxb6605532a.Quo
