/-
  THE PLAIN MATHEMATICS, MORE: tables closed upward; three sets with nothing in common.
-/
import Derived.Test.Qxb6605532aBits2
namespace Go.Proofs.Qxb6605532a.Plain

/-- Closed upward, one bit at a time. -/
def Up (n : Nat) (f : Nat → Bool) : Prop := ∀ s i, s < n → f s = true → 2 ^ i < n → f (s ||| 2 ^ i) = true

theorem mod_succ_pow (t i : Nat) : t % 2 ^ (i + 1) = if t.testBit i then t % 2 ^ i ||| 2 ^ i else t % 2 ^ i := by
  apply Nat.eq_of_testBit_eq
  intro j
  rw [Nat.testBit_mod_two_pow]
  by_cases hb : t.testBit i = true
  · rw [if_pos hb, Nat.testBit_or, Nat.testBit_mod_two_pow, Nat.testBit_two_pow]
    by_cases hj : j = i
    · subst hj; simp [hb]
    · have e : (decide (j < i + 1)) = decide (j < i) := by
        by_cases h : j < i
        · simp [h]; omega
        · simp [h]; omega
      have e2 : decide (i = j) = false := by simp; omega
      rw [e, e2]; simp
  · have hb' : t.testBit i = false := by simpa using hb
    rw [if_neg hb, Nat.testBit_mod_two_pow]
    by_cases hj : j = i
    · subst hj; simp [hb']
    · have e : (decide (j < i + 1)) = decide (j < i) := by
        by_cases h : j < i
        · simp [h]; omega
        · simp [h]; omega
      rw [e]

/-- Closed upward under every superset. -/
theorem up_super {K : Nat} {f : Nat → Bool} (h : Up (2 ^ K) f) {s t : Nat} (ht : t < 2 ^ K) (hs : Sub s t) (hf : f s = true) : f t = true := by
  have hsl : s < 2 ^ K := Nat.lt_of_le_of_lt (sub_le hs) ht
  have step : ∀ i, i ≤ K → f (s ||| t % 2 ^ i) = true := by
    intro i
    induction i with
    | zero => intro _; rw [Nat.pow_zero, Nat.mod_one]; simpa using hf
    | succ i ih =>
      intro hi
      have ih' := ih (by omega)
      rw [mod_succ_pow]
      by_cases hb : t.testBit i = true
      · rw [if_pos hb, ← Nat.or_assoc]
        refine h _ i ?_ ih' (Nat.pow_lt_pow_right (by omega) (by omega))
        exact Nat.or_lt_two_pow hsl (Nat.lt_of_le_of_lt (Nat.mod_le _ _) ht)
      · rw [if_neg hb]; exact ih'
  have h1 := step K (Nat.le_refl _)
  rw [Nat.mod_eq_of_lt ht] at h1
  have e : s ||| t = t := by
    apply Nat.eq_of_testBit_eq
    intro i
    rw [Nat.testBit_or]
    have := sub_bit hs i
    cases h1 : s.testBit i <;> cases h2 : t.testBit i <;> simp_all
  rwa [e] at h1

/-- Some x of inner and y of outer, and the complement of what they share in outer. -/
def R (n : Nat) (inner outer : Nat → Bool) (x y : Nat) : Prop :=
  x < n ∧ inner x = true ∧ y < n ∧ outer y = true ∧ outer (diff (n - 1) (x &&& y)) = true

theorem R_of_P {K : Nat} {inner outer : Nat → Bool} {a y : Nat} (h : P (2 ^ K) inner outer a y) : R (2 ^ K) inner outer a (diff (2 ^ K - 1) y) := by
  obtain ⟨ha, hi, hy, h1, h2⟩ := h
  refine ⟨ha, hi, compl_lt K y, h1, ?_⟩
  have e : a &&& diff (2 ^ K - 1) y = diff a y := by
    apply Nat.eq_of_testBit_eq
    intro i
    rw [Nat.testBit_and, diff_bit, diff_bit, all_bit]
    by_cases hk : i < K
    · simp [hk]
    · rw [bit_high ha hk]; rfl
  rw [e]; exact h2

theorem P_of_R {K : Nat} {inner outer : Nat → Bool} (up : Up (2 ^ K) outer) {x y : Nat} (h : R (2 ^ K) inner outer x y) : P (2 ^ K) inner outer x (diff x y) := by
  obtain ⟨hx, hi, hy, h1, h2⟩ := h
  refine ⟨hx, hi, ?_, ?_, ?_⟩
  · apply sub_of
    intro i hb
    rw [diff_bit] at hb
    simp_all
  · refine up_super up (compl_lt K _) ?_ h1
    apply sub_of
    intro i hb
    rw [diff_bit, diff_bit, all_bit, hb]
    by_cases hk : i < K
    · simp [hk]
    · rw [bit_high hy hk] at hb; cases hb
  · have e : diff x (diff x y) = x &&& y := by
      apply Nat.eq_of_testBit_eq
      intro i
      rw [diff_bit, diff_bit, Nat.testBit_and]
      cases x.testBit i <;> cases y.testBit i <;> rfl
    rw [e]; exact h2

/-- The three have nothing in common. -/
theorem three_apart {a y : Nat} (m : Nat) : (a &&& diff m y) &&& diff m (diff a y) = 0 := by
  apply Nat.eq_of_testBit_eq
  intro i
  rw [Nat.testBit_and, Nat.testBit_and, diff_bit, diff_bit, diff_bit, Nat.zero_testBit]
  cases a.testBit i <;> cases y.testBit i <;> cases m.testBit i <;> rfl

end Go.Proofs.Qxb6605532a.Plain
