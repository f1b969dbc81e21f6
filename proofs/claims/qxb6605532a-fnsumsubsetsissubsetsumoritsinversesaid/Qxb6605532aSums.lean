/-
  THE PLAIN MATHEMATICS, MORE: the signed sum over the subsets of s, walked downward, is what the passes leave.
-/
import Derived.Test.Qxb6605532aBits2
namespace Go.Proofs.Qxb6605532a.Plain

/-! ### Parity -/
/-- Is the number of bits of x (its first K bits) odd? -/
def parK : Nat → Nat → Bool
  | 0, _ => false
  | K + 1, x => Bool.xor (x % 2 == 1) (parK K (x / 2))
def par (x : Nat) : Bool := parK 12 x

theorem parK_zero : ∀ K, parK K 0 = false
  | 0 => rfl
  | K + 1 => by
    rw [parK, parK_zero K]; rfl

theorem parK_drop : ∀ (K x : Nat), 0 < x → x < 2 ^ K → parK K (x &&& (x - 1)) = !parK K x
  | 0, x, h0, h => by
    have : x < 1 := by simpa using h
    omega
  | K + 1, x, h0, h => by
    have hx : x / 2 < 2 ^ K := by rw [Nat.pow_succ] at h; omega
    have e1 : (x &&& (x - 1)) / 2 = x / 2 &&& (x - 1) / 2 := Nat.and_div_two
    rw [parK, parK, e1]
    by_cases ho : x % 2 = 1
    · have e2 : (x - 1) / 2 = x / 2 := by omega
      have e3 : ¬ (x &&& (x - 1)) % 2 = 1 := by rw [Nat.and_mod_two_eq_one]; omega
      have e4 : ((x &&& (x - 1)) % 2 == 1) = false := by simpa using e3
      have e5 : (x % 2 == 1) = true := by simpa using ho
      rw [e2, Nat.and_self, e4, e5]
      cases parK K (x / 2) <;> rfl
    · have e2 : (x - 1) / 2 = x / 2 - 1 := by omega
      have e3 : ¬ (x &&& (x - 1)) % 2 = 1 := by rw [Nat.and_mod_two_eq_one]; omega
      have e4 : ((x &&& (x - 1)) % 2 == 1) = false := by simpa using e3
      have e5 : (x % 2 == 1) = false := by simpa using ho
      rw [e2, e4, e5, parK_drop K (x / 2) (by omega) hx]
      simp

theorem parK_top : ∀ (F K u : Nat), K < F → u < 2 ^ K → parK F (2 ^ K + u) = !parK F u
  | 0, K, u, h, _ => by omega
  | F + 1, 0, u, _, hu => by
    have : u = 0 := by simpa using hu
    subst this
    rw [parK, parK]
    simp [parK_zero]
  | F + 1, K + 1, u, h, hu => by
    rw [Nat.pow_succ] at hu
    have e1 : (2 ^ (K + 1) + u) / 2 = 2 ^ K + u / 2 := by rw [Nat.pow_succ]; omega
    have e2 : (2 ^ (K + 1) + u) % 2 = u % 2 := by rw [Nat.pow_succ]; omega
    rw [parK, parK, e1, e2, parK_top F K (u / 2) (by omega) (by omega)]
    simp

theorem par_drop {x : Nat} (h0 : 0 < x) (h : x < 4096) : par (x &&& (x - 1)) = !par x := parK_drop 12 x h0 h
theorem par_zero : par 0 = false := parK_zero 12
theorem par_top {K u : Nat} (hK : K < 12) (hu : u < 2 ^ K) : par (2 ^ K + u) = !par u := parK_top 12 K u hK hu

/-! ### Signs -/
def sg (inv : Bool) (x : Nat) : Int := if inv && par x then -1 else 1
def sgn (inv : Bool) : Int := if inv then -1 else 1

theorem sg_top (inv : Bool) {K u : Nat} (hK : K < 12) (hu : u < 2 ^ K) : sg inv (2 ^ K + u) = sgn inv * sg inv u := by
  unfold sg sgn
  rw [par_top hK hu]
  cases inv <;> cases par u <;> rfl

/-! ### Bits of 2^K + x -/
theorem bit_top {K x : Nat} (hx : x < 2 ^ K) (i : Nat) : (2 ^ K + x).testBit i = (decide (K = i) || x.testBit i) := by
  have h := Nat.two_pow_add_eq_or_of_lt hx 1
  rw [Nat.mul_one] at h
  rw [h, Nat.testBit_or, Nat.testBit_two_pow]

theorem and_low {K u s : Nat} (hu : u < 2 ^ K) (hs : s < 2 ^ K) : u &&& (2 ^ K + s) = u &&& s := by
  apply Nat.eq_of_testBit_eq
  intro i
  rw [Nat.testBit_and, Nat.testBit_and, bit_top hs]
  by_cases hi : K = i
  · subst hi; rw [bit_high hu (by omega)]; rfl
  · simp [hi]
theorem and_both {K u s : Nat} (hu : u < 2 ^ K) (hs : s < 2 ^ K) : (2 ^ K + u) &&& (2 ^ K + s) = 2 ^ K + (u &&& s) := by
  apply Nat.eq_of_testBit_eq
  intro i
  rw [Nat.testBit_and, bit_top hs, bit_top hu, bit_top (Nat.lt_of_le_of_lt Nat.and_le_left hu), Nat.testBit_and]
  cases decide (K = i) <;> simp
theorem diff_low {K u s : Nat} (hu : u < 2 ^ K) (hs : s < 2 ^ K) : diff (2 ^ K + s) u = 2 ^ K + diff s u := by
  apply Nat.eq_of_testBit_eq
  intro i
  rw [diff_bit, bit_top hs, bit_top (Nat.lt_of_le_of_lt (diff_le s u) hs), diff_bit]
  by_cases hi : K = i
  · subst hi; rw [bit_high hu (by omega)]; simp
  · simp [hi]
theorem diff_both {K u s : Nat} (hu : u < 2 ^ K) (hs : s < 2 ^ K) : diff (2 ^ K + s) (2 ^ K + u) = diff s u := by
  apply Nat.eq_of_testBit_eq
  intro i
  rw [diff_bit, bit_top hs, bit_top hu, diff_bit]
  by_cases hi : K = i
  · subst hi; rw [bit_high hs (by omega)]; simp
  · simp [hi]

/-! ### The sum over subsets -/
/-- What t brings to the sum at s. -/
def term (inv : Bool) (F : Nat → Int) (s t : Nat) : Int := if t &&& s = t then sg inv (diff s t) * F t else 0

theorem sum_congr {f g : Nat → Int} : ∀ n, (∀ i, i < n → f i = g i) → sum f n = sum g n
  | 0, _ => rfl
  | n + 1, h => by
    show sum f n + f n = sum g n + g n
    rw [sum_congr n (fun i hi => h i (by omega)), h n (by omega)]
theorem sum_mul (c : Int) (f : Nat → Int) : ∀ n, sum (fun i => c * f i) n = c * sum f n
  | 0 => by simp [sum]
  | n + 1 => by
    show sum (fun i => c * f i) n + c * f n = c * (sum f n + f n)
    rw [sum_mul c f n, Int.mul_add]
theorem sum_gap {g : Nat → Int} (a : Nat) : ∀ b, a ≤ b → (∀ u, a ≤ u → u < b → g u = 0) → sum g b = sum g a
  | 0, h, _ => by
    have : a = 0 := by omega
    rw [this]
  | b + 1, h, hz => by
    by_cases e : a = b + 1
    · rw [e]
    · show sum g b + g b = sum g a
      rw [sum_gap a b (by omega) (fun u h1 h2 => hz u h1 (by omega)), hz b (by omega) (by omega)]
      omega

theorem term_beyond (inv : Bool) (F : Nat → Int) (s t : Nat) (h : s < t) : term inv F s t = 0 := by
  unfold term
  rw [if_neg]
  intro e
  have := sub_le (show Sub t s from e)
  omega

theorem sum_T (inv : Bool) : ∀ (K : Nat) (F : Nat → Int) (s : Nat), K ≤ 12 → s < 2 ^ K → sum (term inv F s) (2 ^ K) = T (sgn inv) K F s
  | 0, F, s, _, hs => by
    have : s = 0 := by simpa using hs
    subst this
    show (0 : Int) + term inv F 0 0 = F 0
    unfold term sg
    have e : diff 0 0 = 0 := rfl
    rw [e, par_zero]
    simp
  | K + 1, F, s, hK, hs => by
    have ih := fun F s => sum_T inv K F s (by omega)
    rw [pow_succ'] at hs ⊢
    rw [sum_add, T]
    by_cases hk : s < 2 ^ K
    · rw [if_pos hk, ← ih F s hk, sum_gap (g := fun t => term inv F s (2 ^ K + t)) 0 (2 ^ K) (by omega) (fun u _ _ => term_beyond inv F s _ (by omega))]
      simp [sum]
    · obtain ⟨u, rfl⟩ : ∃ u, s = 2 ^ K + u := ⟨s - 2 ^ K, by omega⟩
      have hu : u < 2 ^ K := by omega
      rw [if_neg hk, Nat.add_sub_cancel_left, ← ih F u hu, ← ih _ u hu, ← sum_mul]
      have e1 : sum (term inv F (2 ^ K + u)) (2 ^ K) = sum (fun t => sgn inv * term inv F u t) (2 ^ K) := by
        apply sum_congr
        intro t ht
        unfold term
        rw [and_low ht hu]
        by_cases h : t &&& u = t
        · rw [if_pos h, if_pos h, diff_low ht hu, sg_top inv (by omega) (Nat.lt_of_le_of_lt (diff_le u t) hu), Int.mul_assoc]
        · rw [if_neg h, if_neg h]; simp
      have e2 : sum (fun t => term inv F (2 ^ K + u) (2 ^ K + t)) (2 ^ K) = sum (term inv (fun t => F (2 ^ K + t)) u) (2 ^ K) := by
        apply sum_congr
        intro t ht
        show term inv F (2 ^ K + u) (2 ^ K + t) = _
        unfold term
        rw [and_both ht hu, diff_both ht hu]
        by_cases h : t &&& u = t
        · rw [if_pos (by rw [h]), if_pos h]
        · rw [if_neg (fun e => h (by omega)), if_neg h]
      rw [e1, e2]
      omega

/-- The whole sum at s. -/
def tot (inv : Bool) (F : Nat → Int) (s : Nat) : Int := sum (term inv F s) (s + 1)

/-- THE PASSES LEAVE THE SUM OVER THE SUBSETS. -/
theorem tot_op (inv : Bool) (F : Nat → Int) (s : Nat) (hs : s < 4096) : tot inv F s = op (sgn inv) 12 F s := by
  have hs' : s < 2 ^ 12 := hs
  rw [op_eq_T _ 12 F s hs', ← sum_T inv 12 F s (by omega) hs']
  unfold tot
  exact (sum_gap (s + 1) (2 ^ 12) (by omega) (fun u h _ => term_beyond inv F s u (by omega))).symm

/-- What is still to come once t has been taken. -/
theorem sum_take (inv : Bool) (F : Nat → Int) (s t : Nat) (ht : Sub t s) : tot inv F s - sum (term inv F s) (t + 1) + sg inv (diff s t) * F t = tot inv F s - sum (term inv F s) t := by
  have e : sum (term inv F s) (t + 1) = sum (term inv F s) t + term inv F s t := rfl
  have e2 : term inv F s t = sg inv (diff s t) * F t := by unfold term; exact if_pos ht
  rw [e, e2]
  omega

/-- From t to the next subset below. -/
theorem sum_next (inv : Bool) (F : Nat → Int) (s t : Nat) (ht : Sub t s) (h : 0 < t) : sum (term inv F s) t = sum (term inv F s) (((t - 1) &&& s) + 1) := by
  refine sum_gap _ t ?_ (fun u h1 h2 => ?_)
  · have := and_lt (s := s) h
    omega
  · unfold term
    rw [if_neg]
    intro e
    have := sub_next t s t u (Nat.le_refl _) ht (show Sub u s from e) h2
    omega

end Go.Proofs.Qxb6605532a.Plain
