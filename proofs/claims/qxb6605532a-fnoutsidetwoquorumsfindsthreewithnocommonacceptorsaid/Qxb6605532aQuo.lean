/-
  THE WALK OF outsideTwoQuorums (21), and what it answers.
-/
import Derived.Test.Qxb6605532aWalk2
import Derived.Test.Qxb6605532aBits2
namespace Go.Proofs.Qxb6605532a.Quo
open Go.RowKit Go.Proofs.Qxb6605532a.Mem Go.Proofs.Qxb6605532a.Walk
open Go.Proofs.Qxb6605532a.Plain (Sub P ind pairs op sub_le sub_next sub_and sub_self and_lt pairs_bd pairs_pos)

/-- What outsideTwoQuorums answers. -/
def Found (n : Nat) (inner outer : Nat → Bool) (e : Ending) : Prop :=
  (∃ a y, P n inner outer a y ∧ (∀ a' y', a' < a → ¬ P n inner outer a' y') ∧ (∀ y', y < y' → ¬ P n inner outer a y') ∧
    e = .returned (.tuple #[.int .u64 (a : Int), .int .u64 (Plain.diff (n - 1) y : Int), .int .u64 (Plain.diff (n - 1) (Plain.diff a y) : Int), .bool true])) ∨
  ((∀ a y, ¬ P n inner outer a y) ∧ e = .returned (.tuple #[.int .u64 0, .int .u64 0, .int .u64 0, .bool false]))

theorem and_not (n k : Nat) (hn : n ≤ 4096) (h1 : 1 ≤ n) (hk : k < 4096) : bits .andNot .i64 ((n : Int) - 1) (k : Int) = ((Plain.diff (n - 1) k : Nat) : Int) := by
  have e : (n : Int) - 1 = ((n - 1 : Nat) : Int) := by omega
  rw [e]
  exact i64_andNot (n - 1) k (by omega) (by omega)

theorem dif_lt (n k : Nat) (h1 : 1 ≤ n) : Plain.diff (n - 1) k < n := by
  have := Plain.diff_le (n - 1) k
  omega

/-- In the midst of the squares. -/
def sq (n : Nat) (outer : Nat → Bool) (k s : Nat) : Int := if s < k then op 1 12 (ind n outer) s * op 1 12 (ind n outer) s else op 1 12 (ind n outer) s
theorem sq_here (n : Nat) (outer : Nat → Bool) (k : Nat) : sq n outer k k = op 1 12 (ind n outer) k := by simp [sq]
theorem sq_step (n : Nat) (outer : Nat → Bool) (k j : Nat) : (if j = k then op 1 12 (ind n outer) k * op 1 12 (ind n outer) k else sq n outer k j) = sq n outer (k + 1) j := by
  unfold sq
  by_cases h1 : j = k
  · subst h1; simp
  · by_cases h2 : j < k
    · rw [if_neg h1, if_pos h2, if_pos (by omega)]
    · rw [if_neg h1, if_neg h2, if_neg (by omega)]
theorem ind_step (n : Nat) (outer : Nat → Bool) (k j : Nat) (x : Int) (hx : x = ind n outer k) : (if j = k then x else if j < k then ind n outer j else 0) = if j < k + 1 then ind n outer j else 0 := by
  by_cases h1 : j = k
  · subst h1; simp [hx]
  · by_cases h2 : j < k
    · rw [if_neg h1, if_pos h2, if_pos (by omega)]
    · rw [if_neg h1, if_neg h2, if_neg (by omega)]
theorem ind_skip (n : Nat) (outer : Nat → Bool) (k j : Nat) (hx : ind n outer k = 0) : (if j < k then ind n outer j else 0) = if j < k + 1 then ind n outer j else 0 := by
  by_cases h1 : j = k
  · subst h1; simp [hx]
  · by_cases h2 : j < k
    · rw [if_pos h2, if_pos (by omega)]
    · rw [if_neg h2, if_neg (by omega)]
theorem uw_one : uw 1 = 1 := by decide

theorem no_inner {n : Nat} {inner outer : Nat → Bool} {k : Nat} (h : ∀ a y, a < k → ¬ P n inner outer a y) (hi : inner k = false) : ∀ a y, a < k + 1 → ¬ P n inner outer a y := by
  intro a y ha hp
  by_cases e : a = k
  · subst e; have := hp.2.1; rw [hi] at this; cases this
  · exact h a y (by omega) hp
theorem no_zero {n K : Nat} {inner outer : Nat → Bool} {k : Nat} (hK : n = 2 ^ K) (hK2 : K ≤ 12) (h : ∀ a y, a < k → ¬ P n inner outer a y) (hz : pairs n outer k = 0) : ∀ a y, a < k + 1 → ¬ P n inner outer a y := by
  intro a y ha hp
  by_cases e : a = k
  · subst e; subst hK; exact pairs_pos hK2 hp hz
  · exact h a y (by omega) hp
theorem pair_nz {n K : Nat} {outer : Nat → Bool} {k : Nat} (hK : n = 2 ^ K) (hK2 : K ≤ 12) (hk : k < n) (hz : pairs n outer k ≠ 0) : (uw (pairs n outer k) == 0) = false := by
  subst hK
  have := pairs_bd hK2 outer k hk
  rw [uw_in this.1 this.2]
  simpa using hz

theorem no_more {n : Nat} {inner outer : Nat → Bool} {k z : Nat} (hz : z = 0) (h : ∀ a y, a < k → ¬ P n inner outer a y) (h2 : ∀ y', z < y' → ¬ P n inner outer k y') (h3 : ¬ P n inner outer k z) : ∀ a y, a < k + 1 → ¬ P n inner outer a y := by
  subst hz
  intro a y ha hp
  by_cases e : a = k
  · subst e
    by_cases hy : y = 0
    · subst hy; exact h3 hp
    · exact h2 y (by omega) hp
  · exact h a y (by omega) hp
theorem no_next {n : Nat} {inner outer : Nat → Bool} {k y : Nat} (hs : Sub y k) (h2 : ∀ y', y < y' → ¬ P n inner outer k y') (h3 : ¬ P n inner outer k y) : ∀ y', (y - 1) &&& k < y' → ¬ P n inner outer k y' := by
  intro y' hlt hp
  rcases Nat.lt_trichotomy y' y with h | h | h
  · have := sub_next y k y y' (Nat.le_refl _) hs hp.2.2.1 h
    omega
  · subst h; exact h3 hp
  · exact h2 y' h hp
theorem and_dec (y k : Nat) (hy : y ≤ 4096) (h1 : 1 ≤ y) (hk : k ≤ 4096) : bits .and .i64 ((y : Int) - 1) (k : Int) = (((y - 1) &&& k : Nat) : Int) := by
  have e : (y : Int) - 1 = ((y - 1 : Nat) : Int) := by omega
  rw [e]
  exact i64_and (y - 1) k (by omega) (by omega)

set_option maxHeartbeats 2000000 in
theorem out_any (bi bo n K : Nat) (inner outer : Nat → Bool) (w : World) (hn : n ≤ 4096) (h1 : 1 ≤ n) (HK : Hid (n = 2 ^ K ∧ K ≤ 12)) (hbi : Bools w bi n inner) (hbo : Bools w bo n outer) :
    Calls Try.prog 21 #[.slice (some ⟨bi, 0, none⟩) n n, .slice (some ⟨bo, 0, none⟩) n n] w fun e w' => Found n inner outer e ∧ Below w.heap.size w w' := by
  have hn' : (n : Int) ≤ 4096 := by omega
  have h1' : (1 : Int) ≤ n := by omega
  have hmk := make_words n hn
  go_enter Try.func21, Try.ntmps21
  go_wp2_with fail
  clear hmk
  go_loopw [22] (fun v wr => ∃ k : Nat, k ≤ n ∧ v = .int .i64 k ∧ Words wr w.heap.size n (fun j => if j < k then ind n outer j else 0) ∧ Upd w.heap.size (w.alloc (.cells (row n (fun _ => 0)) 29)) wr) (fun v _ => n - (intOf v).toNat)
  case atStart => exact ⟨0, by omega, rfl, (words_alloc w n _).congr (fun i _ => by simp), Upd.refl _ _⟩
  case round =>
    obtain ⟨k, hk, rfl, hW, hU⟩ := hrel
    have hD := (alloc_below w (.cells (row n (fun _ => 0)) 29)).trans (hU.below (Nat.le_refl _))
    by_cases hlt : k < n
    · have ha := and_not n k hn h1 (by omega)
      have hd := dif_lt n k h1
      have hd' : ((Plain.diff (n - 1) k : Nat) : Int) < n := by omega
      have hc := (below_bools hD hbo.lt hbo).cell hd
      have hf := hW.free k
      have hw := hW.cell hlt
      by_cases ho : outer (Plain.diff (n - 1) k) = true
      · rw [ho] at hc
        go_wp2_with fail
        go_roundw
        case rel =>
          refine ⟨k + 1, by omega, by go_num, ?_, hU.setCell k _⟩
          have := hW.set k 1
          rw [uw_one] at this
          exact this.congr (fun j _ => ind_step n outer k j 1 (by unfold ind; rw [if_pos ho]))
        case measure => simp [intOf]; omega
      · have ho' : outer (Plain.diff (n - 1) k) = false := by simpa using ho
        rw [ho'] at hc
        go_wp2_with fail
        go_roundw
        case rel =>
          exact ⟨k + 1, by omega, by go_num, hW.congr (fun j _ => ind_skip n outer k j (by unfold ind; rw [if_neg ho])), hU⟩
        case measure => simp [intOf]; omega
    · have W0 : Words wr w.heap.size n (ind n outer) := hW.congr (fun j hj => if_pos (by omega))
      clear hU hW
      go_wp2_with fail
      refine (sum_any false w.heap.size n _ _ hn W0).mono ?_
      rintro e w2 ⟨rfl, W2, U2⟩
      have D2 : Below w.heap.size w w2 := hD.trans (U2.below (Nat.le_refl _))
      clear U2 W0 hD
      go_wp2_with fail
      go_loopw [39] (fun v wr => ∃ k : Nat, k ≤ n ∧ v = .int .i64 k ∧ Words wr w.heap.size n (sq n outer k) ∧ Upd w.heap.size w2 wr) (fun v _ => n - (intOf v).toNat)
      case atStart => exact ⟨0, by omega, rfl, W2.congr (fun j _ => by simp [sq, cf]), Upd.refl _ _⟩
      case round =>
        obtain ⟨k, hk, rfl, hW, hU⟩ := hrel
        by_cases hlt : k < n
        · have hf := hW.free k
          have hc := hW.cell hlt
          rw [sq_here] at hc
          go_wp2_with fail
          go_region
          all_goals go_wp2_with fail
          go_roundw
          case rel =>
            refine ⟨k + 1, by omega, by go_num, ?_, (hU.setCell k _).drew⟩
            rw [uw_mul]
            exact ((hW.set k _).congr (fun j _ => sq_step n outer k j)).drew
          case measure => simp [intOf]; omega
        · have W3 : Words wr w.heap.size n (fun s => op 1 12 (ind n outer) s * op 1 12 (ind n outer) s) := hW.congr (fun j hj => if_pos (by omega))
          have D3 : Below w.heap.size w wr := D2.trans (hU.below (Nat.le_refl _))
          clear hU hW D2 W2
          go_wp2_with fail
          refine (sum_any true w.heap.size n _ _ hn W3).mono ?_
          rintro e w4 ⟨rfl, W4, U4⟩
          have D4 : Below w.heap.size w w4 := D3.trans (U4.below (Nat.le_refl _))
          have W5 : Words w4 w.heap.size n (pairs n outer) := W4
          have I5 : Bools w4 bi n inner := below_bools D4 hbi.lt hbi
          have O5 : Bools w4 bo n outer := below_bools D4 hbo.lt hbo
          clear W4 U4 D3 W3
          go_wp2_with fail
          go_loop [57] (fun v => ∃ k : Nat, k ≤ n ∧ v = .int .i64 k ∧ ∀ a y, a < k → ¬ P n inner outer a y) (fun v => n - (intOf v).toNat)
          case atStart => exact ⟨0, by omega, rfl, fun a y h => by omega⟩
          case round =>
            obtain ⟨k, hk, rfl, hno⟩ := hrel
            have HN : Hid (∀ a y, a < k → ¬ P n inner outer a y) := hno
            clear hno
            by_cases hlt : k < n
            · have hci := I5.cell hlt
              have hcp := W5.cell hlt
              by_cases hin : inner k = true
              · rw [hin] at hci
                by_cases hz : pairs n outer k = 0
                · rw [hz] at hcp
                  have hu0 : uw 0 = 0 := by decide
                  rw [hu0] at hcp
                  go_wp2_with fail
                  go_round
                  case rel => exact ⟨k + 1, by omega, by go_num, no_zero HK.out.1 HK.out.2 HN.out hz⟩
                  case measure => simp [intOf]; omega
                · have hnz := pair_nz HK.out.1 HK.out.2 hlt hz
                  have HZ : Hid (inner k = true) := hin
                  clear hz hin
                  go_wp2_with fail
                  go_loop [13] (fun v => ∃ y : Nat, v = .int .i64 y ∧ Sub y k ∧ ∀ y', y < y' → ¬ P n inner outer k y') (fun v => (intOf v).toNat)
                  case atStart => exact ⟨k, rfl, sub_self k, fun y' h hp => by have := sub_le hp.2.2.1; omega⟩
                  case round =>
                    obtain ⟨y, rfl, hs, hno⟩ := hrel
                    have hyk : y ≤ k := sub_le hs
                    have HS : Hid (Sub y k) := hs
                    have HY : Hid (∀ y', y < y' → ¬ P n inner outer k y') := hno
                    clear hs hno
                    have a1 := and_not n y hn h1 (by omega)
                    have d1 := dif_lt n y h1
                    have d1' : ((Plain.diff (n - 1) y : Nat) : Int) < n := by omega
                    have c1 := O5.cell d1
                    by_cases o1 : outer (Plain.diff (n - 1) y) = true
                    · have a2 : bits .andNot .i64 (k : Int) (y : Int) = ((Plain.diff k y : Nat) : Int) := i64_andNot k y (by omega) (by omega)
                      have dk := Plain.diff_le k y
                      have a3 := and_not n (Plain.diff k y) hn h1 (by omega)
                      have d3 := dif_lt n (Plain.diff k y) h1
                      have d3' : ((Plain.diff (n - 1) (Plain.diff k y) : Nat) : Int) < n := by omega
                      have c3 := O5.cell d3
                      by_cases o3 : outer (Plain.diff (n - 1) (Plain.diff k y)) = true
                      · rw [o1] at c1
                        rw [o3] at c3
                        have O1 : Hid (outer (Plain.diff (n - 1) y) = true) := o1
                        have O3 : Hid (outer (Plain.diff (n - 1) (Plain.diff k y)) = true) := o3
                        clear o1 o3
                        go_wp2_with fail
                        exact bodyPost_ret (v := .tuple #[.int .u64 (k : Int), .int .u64 (Plain.diff (n - 1) y : Int), .int .u64 (Plain.diff (n - 1) (Plain.diff k y) : Int), .bool true]) (by simp [results, Try.results21, go_sem]) rfl
                          ⟨.inl ⟨k, y, ⟨hlt, HZ.out, HS.out, O1.out, O3.out⟩, fun a' y' h => HN.out a' y' h, HY.out, rfl⟩, D4⟩
                      · have o3' : outer (Plain.diff (n - 1) (Plain.diff k y)) = false := by simpa using o3
                        have HP : Hid (¬ P n inner outer k y) := fun hp => o3 hp.2.2.2.2
                        rw [o1] at c1
                        rw [o3'] at c3
                        clear o1 o3 o3'
                        by_cases hy0 : y = 0
                        · have hy1 : ((y : Int) == 0) = true := by simpa using hy0
                          have HZ0 : Hid (y = 0) := hy0
                          clear hy0
                          go_wp2_with fail
                          go_round
                          case rel => exact ⟨k + 1, by omega, by go_num, no_more HZ0.out HN.out HY.out HP.out⟩
                          case measure => simp [intOf]; omega
                        · have hy1 : ((y : Int) == 0) = false := by simpa using hy0
                          have hy2 : (1 : Int) ≤ y := by omega
                          have hand := and_dec y k (by omega) (by omega) (by omega)
                          go_wp2_with fail
                          go_round
                          case rel => exact ⟨(y - 1) &&& k, rfl, sub_and _ _, no_next HS.out HY.out HP.out⟩
                          case measure => simp [intOf]; have := and_lt (t := y) (s := k) (by omega); omega
                    · have o1' : outer (Plain.diff (n - 1) y) = false := by simpa using o1
                      have HP : Hid (¬ P n inner outer k y) := fun hp => o1 hp.2.2.2.1
                      rw [o1'] at c1
                      clear o1 o1'
                      by_cases hy0 : y = 0
                      · have hy1 : ((y : Int) == 0) = true := by simpa using hy0
                        have HZ0 : Hid (y = 0) := hy0
                        clear hy0
                        go_wp2_with fail
                        go_round
                        case rel => exact ⟨k + 1, by omega, by go_num, no_more HZ0.out HN.out HY.out HP.out⟩
                        case measure => simp [intOf]; omega
                      · have hy1 : ((y : Int) == 0) = false := by simpa using hy0
                        have hy2 : (1 : Int) ≤ y := by omega
                        have hand := and_dec y k (by omega) (by omega) (by omega)
                        go_wp2_with fail
                        go_round
                        case rel => exact ⟨(y - 1) &&& k, rfl, sub_and _ _, no_next HS.out HY.out HP.out⟩
                        case measure => simp [intOf]; have := and_lt (t := y) (s := k) (by omega); omega
              · have hin' : inner k = false := by simpa using hin
                rw [hin'] at hci
                go_wp2_with fail
                go_round
                case rel => exact ⟨k + 1, by omega, by go_num, no_inner HN.out hin'⟩
                case measure => simp [intOf]; omega
            · go_wp2_with fail
              exact bodyPost_ret (v := .tuple #[.int .u64 0, .int .u64 0, .int .u64 0, .bool false]) (by simp [results, Try.results21, go_sem]) rfl
                ⟨.inr ⟨fun a y hp => HN.out a y (by have := hp.1; omega) hp, rfl⟩, D4⟩
end Go.Proofs.Qxb6605532a.Quo
