/-
  THE WALKS OF oddBitCount (19) AND subsetSumsByWalk (9).
-/
import Derived.Test.Qxb6605532aWalk2
import Derived.Test.Qxb6605532aSums
namespace Go.Proofs.Qxb6605532a.Subs
open Go.RowKit Go.Proofs.Qxb6605532a.Mem Go.Proofs.Qxb6605532a.Walk
open Go.Proofs.Qxb6605532a.Plain (par sg sgn term tot sum)

theorem and_dec (y k : Nat) (hy : y ≤ 4096) (h1 : 1 ≤ y) (hk : k ≤ 4096) : bits .and .i64 ((y : Int) - 1) (k : Int) = (((y - 1) &&& k : Nat) : Int) := by
  have e : (y : Int) - 1 = ((y - 1 : Nat) : Int) := by omega
  rw [e]
  exact i64_and (y - 1) k (by omega) (by omega)
theorem and_dec' (x : Nat) (hx : x ≤ 4096) (h1 : 1 ≤ x) : bits .and .i64 (x : Int) ((x : Int) - 1) = ((x &&& (x - 1) : Nat) : Int) := by
  have e : (x : Int) - 1 = ((x - 1 : Nat) : Int) := by omega
  rw [e]
  exact i64_and x (x - 1) (by omega) (by omega)

theorem odd_any (x : Nat) (w : World) (hx : x < 4096) : Calls Try.prog 19 #[.int .i64 (x : Int)] w fun e w' => e = .returned (.bool (par x)) ∧ w = w' := by
  go_enter Try.func19, Try.ntmps19
  go_wp2_with fail
  go_loop [0, 3] (fun v o => ∃ (z : Nat) (b : Bool), v = .int .i64 z ∧ o = .bool b ∧ z < 4096 ∧ par x = Bool.xor b (par z)) (fun v _ => (intOf v).toNat)
  case atStart => exact ⟨x, false, rfl, rfl, hx, by simp⟩
  case round =>
    obtain ⟨z, b, rfl, rfl, hz, hpar⟩ := hrel
    have HP : Hid (par x = Bool.xor b (par z)) := hpar
    clear hpar
    by_cases h0 : z = 0
    · have ht : ((z : Int) != 0) = false := by simp [h0]
      have H0 : Hid (z = 0) := h0
      clear h0
      go_wp2_with fail
      go_ret
      exact ⟨ret_bool (by rw [HP.out, H0.out, Plain.par_zero]; simp), rfl⟩
    · have ht : ((z : Int) != 0) = true := by simpa using h0
      have h1 : (1 : Int) ≤ z := by omega
      have ha := and_dec' z (by omega) (by omega)
      have hlt : z &&& (z - 1) < z := by have : z &&& (z - 1) ≤ z - 1 := Nat.and_le_right; omega
      clear h0
      go_wp2_with fail
      go_round
      case rel =>
        refine ⟨z &&& (z - 1), !b, rfl, rfl, by omega, ?_⟩
        rw [HP.out, Plain.par_drop (by omega) hz]
        cases b <;> cases par z <;> rfl
      case measure => simp [intOf]; omega

/-- In the midst of the walk at s: t is next. -/
def rest (inv : Bool) (F : Nat → Int) (s t : Nat) : Int := tot inv F s - sum (term inv F s) (t + 1)

theorem rest_start (inv : Bool) (F : Nat → Int) (s : Nat) : rest inv F s s = 0 := by unfold rest tot; omega
/-- Behind t, added. -/
def after (inv : Bool) (F : Nat → Int) (s t : Nat) : Int := tot inv F s - sum (term inv F s) t
theorem rest_plus {inv : Bool} {F : Nat → Int} {s t : Nat} (ht : Plain.Sub t s) (h : (inv && par (Plain.diff s t)) = false) : rest inv F s t + F t = after inv F s t := by
  have e := Plain.sum_take inv F s t ht
  have h1 : sg inv (Plain.diff s t) = 1 := by unfold sg; rw [h]; rfl
  rw [h1] at e
  unfold rest after
  omega
theorem rest_minus {inv : Bool} {F : Nat → Int} {s t : Nat} (ht : Plain.Sub t s) (h : (inv && par (Plain.diff s t)) = true) : rest inv F s t - F t = after inv F s t := by
  have e := Plain.sum_take inv F s t ht
  have h1 : sg inv (Plain.diff s t) = -1 := by unfold sg; rw [h]; rfl
  rw [h1] at e
  unfold rest after
  omega
theorem after_zero (inv : Bool) (F : Nat → Int) (s : Nat) : after inv F s 0 = tot inv F s := by
  unfold after
  have : sum (term inv F s) 0 = 0 := rfl
  omega
theorem after_next {inv : Bool} {F : Nat → Int} {s t : Nat} (ht : Plain.Sub t s) (h : 0 < t) : after inv F s t = rest inv F s ((t - 1) &&& s) := by
  unfold after rest
  rw [Plain.sum_next inv F s t ht h]

theorem last_plus {inv : Bool} {F : Nat → Int} {s t : Nat} (ht : Plain.Sub t s) (h : (inv && par (Plain.diff s t)) = false) (h0 : t = 0) : IntKind.u64.wrap (uw (rest inv F s t) + uw (F t)) = uw (tot inv F s) := by
  rw [uw_add, rest_plus ht h, h0, after_zero]
theorem last_minus {inv : Bool} {F : Nat → Int} {s t : Nat} (ht : Plain.Sub t s) (h : (inv && par (Plain.diff s t)) = true) (h0 : t = 0) : IntKind.u64.wrap (uw (rest inv F s t) - uw (F t)) = uw (tot inv F s) := by
  rw [uw_sub, rest_minus ht h, h0, after_zero]
theorem more_plus {inv : Bool} {F : Nat → Int} {s t : Nat} (ht : Plain.Sub t s) (h : (inv && par (Plain.diff s t)) = false) (h0 : 0 < t) : IntKind.u64.wrap (uw (rest inv F s t) + uw (F t)) = uw (rest inv F s ((t - 1) &&& s)) := by
  rw [uw_add, rest_plus ht h, after_next ht h0]
theorem more_minus {inv : Bool} {F : Nat → Int} {s t : Nat} (ht : Plain.Sub t s) (h : (inv && par (Plain.diff s t)) = true) (h0 : 0 < t) : IntKind.u64.wrap (uw (rest inv F s t) - uw (F t)) = uw (rest inv F s ((t - 1) &&& s)) := by
  rw [uw_sub, rest_minus ht h, after_next ht h0]

set_option maxHeartbeats 2000000 in
theorem walk_any (inv : Bool) (b n : Nat) (F : Nat → Int) (w : World) (hn : n ≤ 4096) (hw : Words w b n F) :
    Calls Try.prog 9 #[.slice (some ⟨b, 0, none⟩) n n, .bool inv] w (Cloned n (tot inv F) w) := by
  have hn' : (n : Int) ≤ 4096 := by omega
  have hmk := make_words n hn
  go_enter Try.func9, Try.ntmps9
  go_wp2_with fail
  clear hmk
  go_loopw [6] (fun v wr => ∃ k : Nat, k ≤ n ∧ v = .int .i64 k ∧ Words wr w.heap.size n (fun j => if j < k then tot inv F j else 0) ∧ Upd w.heap.size (w.alloc (.cells (row n (fun _ => 0)) 29)) wr) (fun v _ => n - (intOf v).toNat)
  case atStart => exact ⟨0, by omega, rfl, (words_alloc w n _).congr (fun i _ => by simp), Upd.refl _ _⟩
  case round =>
    obtain ⟨k, hk, rfl, hW, hU⟩ := hrel
    have hD := (alloc_below w (.cells (row n (fun _ => 0)) 29)).trans (hU.below (Nat.le_refl _))
    by_cases hlt : k < n
    · have hS := below_words hD hw.lt hw
      have hf := hW.free k
      have hd := hW.cell hlt
      go_wp2_with fail
      go_loop [7, 8] (fun u v => ∃ t : Nat, v = .int .i64 t ∧ u = .int .u64 (uw (rest inv F k t)) ∧ Plain.Sub t k) (fun _ v => (intOf v).toNat)
      case atStart => exact ⟨k, rfl, by rw [rest_start]; rfl, Plain.sub_self k⟩
      case round =>
        obtain ⟨t, rfl, rfl, hsub⟩ := hrel
        have htk : t ≤ k := Plain.sub_le hsub
        have HS : Hid (Plain.Sub t k) := hsub
        clear hsub
        have hc := hS.cell (i := t) (by omega)
        have a1 : bits .andNot .i64 (k : Int) (t : Int) = ((Plain.diff k t : Nat) : Int) := i64_andNot k t (by omega) (by omega)
        have dk := Plain.diff_le k t
        cases inv with
        | false =>
          have HG : Hid ((false && par (Plain.diff k t)) = false) := rfl
          by_cases h0 : t = 0
          · have ht : ((t : Int) == 0) = true := by simpa using h0
            have H0 : Hid (t = 0) := h0
            clear h0
            go_wp2_with fail
            go_roundw
            case rel =>
              refine ⟨k + 1, by omega, by go_num, ?_, hU.setCell k _⟩
              rw [last_plus HS.out HG.out H0.out]
              exact (hW.set k _).congr (fun j _ => step_if (tot _ F) 0 j k)
            case measure => simp [intOf]; omega
          · have ht : ((t : Int) == 0) = false := by simpa using h0
            have h1 : (1 : Int) ≤ t := by omega
            have ha := and_dec t k (by omega) (by omega) (by omega)
            have hlt2 := Plain.and_lt (t := t) (s := k) (by omega)
            clear h0
            go_wp2_with fail
            go_round
            case rel => exact ⟨(t - 1) &&& k, rfl, by rw [more_plus HS.out HG.out (by omega)], Plain.sub_and _ _⟩
            case measure => simp [intOf]; omega
        | true =>
          by_cases hp : par (Plain.diff k t) = true
          · have HG : Hid ((true && par (Plain.diff k t)) = true) := hp
            by_cases h0 : t = 0
            · have ht : ((t : Int) == 0) = true := by simpa using h0
              have H0 : Hid (t = 0) := h0
              clear h0
              go_wp2_with (go_at_call 19; refine (odd_any _ _ (by omega)).mono ?_; rintro e w' ⟨rfl, rfl⟩)
              go_roundw
              case rel =>
                refine ⟨k + 1, by omega, by go_num, ?_, hU.setCell k _⟩
                rw [last_minus HS.out HG.out H0.out]
                exact (hW.set k _).congr (fun j _ => step_if (tot _ F) 0 j k)
              case measure => simp [intOf]; omega
            · have ht : ((t : Int) == 0) = false := by simpa using h0
              have h1 : (1 : Int) ≤ t := by omega
              have ha := and_dec t k (by omega) (by omega) (by omega)
              have hlt2 := Plain.and_lt (t := t) (s := k) (by omega)
              clear h0
              go_wp2_with (go_at_call 19; refine (odd_any _ _ (by omega)).mono ?_; rintro e w' ⟨rfl, rfl⟩)
              go_round
              case rel => exact ⟨(t - 1) &&& k, rfl, by rw [more_minus HS.out HG.out (by omega)], Plain.sub_and _ _⟩
              case measure => simp [intOf]; omega
          · have hp' : par (Plain.diff k t) = false := by simpa using hp
            have HG : Hid ((true && par (Plain.diff k t)) = false) := hp'
            clear hp
            by_cases h0 : t = 0
            · have ht : ((t : Int) == 0) = true := by simpa using h0
              have H0 : Hid (t = 0) := h0
              clear h0
              go_wp2_with (go_at_call 19; refine (odd_any _ _ (by omega)).mono ?_; rintro e w' ⟨rfl, rfl⟩)
              go_roundw
              case rel =>
                refine ⟨k + 1, by omega, by go_num, ?_, hU.setCell k _⟩
                rw [last_plus HS.out HG.out H0.out]
                exact (hW.set k _).congr (fun j _ => step_if (tot _ F) 0 j k)
              case measure => simp [intOf]; omega
            · have ht : ((t : Int) == 0) = false := by simpa using h0
              have h1 : (1 : Int) ≤ t := by omega
              have ha := and_dec t k (by omega) (by omega) (by omega)
              have hlt2 := Plain.and_lt (t := t) (s := k) (by omega)
              clear h0
              go_wp2_with (go_at_call 19; refine (odd_any _ _ (by omega)).mono ?_; rintro e w' ⟨rfl, rfl⟩)
              go_round
              case rel => exact ⟨(t - 1) &&& k, rfl, by rw [more_plus HS.out HG.out (by omega)], Plain.sub_and _ _⟩
              case measure => simp [intOf]; omega
    · go_wp2_with fail
      go_ret
      exact ⟨_, rfl, hW.congr (fun j hj => if_pos (by omega)), hD, Nat.le_refl _⟩

/-- Of a nil table: an empty one. -/
theorem walk_nil (inv : Bool) (w : World) : Calls Try.prog 9 #[.slice none 0 0, .bool inv] w (Cloned 0 (fun _ => 0) w) := by
  have hmk := make_words 0 (by omega)
  simp only [Int.natCast_zero] at hmk
  go_enter Try.func9, Try.ntmps9
  go_wp2_with fail
  refine wp_loop_rounds 1 ?_
  rw [rounds_succ]
  go_wp2_with fail
  go_ret
  exact ⟨_, rfl, words_alloc w 0 _, alloc_below w _, Nat.le_refl _⟩

theorem same_zero (a c : Option Addr) (p q : Nat) (w : World) : Calls Try.prog 11 #[.slice a 0 p, .slice c 0 q] w fun e w' => e = .returned (.bool true) ∧ w = w' := by
  go_enter Try.func11, Try.ntmps11
  go_wp2_with fail
  refine wp_loop_rounds 1 ?_
  rw [rounds_succ]
  go_wp2_with fail
  go_ret
  exact ⟨rfl, rfl⟩

end Go.Proofs.Qxb6605532a.Subs
