/-
  THE PLAIN MATHEMATICS, MORE: sets as numbers (no Go in sight): differences, complements, powers of two; the 'or'-convolution, whose sum over subsets is a product.
-/
import Derived.Test.Qxb6605532aPlain
namespace Go.Proofs.Qxb6605532a.Plain

/-- a without b. -/
def diff (a b : Nat) : Nat := a ^^^ (a &&& b)

theorem diff_bit (a b i : Nat) : (diff a b).testBit i = (a.testBit i && !b.testBit i) := by
  unfold diff
  rw [Nat.testBit_xor, Nat.testBit_and]
  cases a.testBit i <;> cases b.testBit i <;> rfl

theorem diff_le (a b : Nat) : diff a b ≤ a := by
  apply Nat.le_of_testBit
  intro i hi
  rw [diff_bit] at hi
  cases h : a.testBit i <;> simp_all

/-- y lies within a. -/
def Sub (y a : Nat) : Prop := y &&& a = y

theorem sub_bit {y a : Nat} (h : Sub y a) (i : Nat) (hi : y.testBit i = true) : a.testBit i = true := by
  have := congrArg (fun z => Nat.testBit z i) h
  simp only [Nat.testBit_and, hi, Bool.true_and] at this
  exact this
theorem sub_of {y a : Nat} (h : ∀ i, y.testBit i = true → a.testBit i = true) : Sub y a := by
  apply Nat.eq_of_testBit_eq
  intro i
  rw [Nat.testBit_and]
  cases hy : y.testBit i
  · rfl
  · rw [h i hy]; rfl
theorem sub_le {y a : Nat} (h : Sub y a) : y ≤ a := Nat.le_of_testBit fun i hi => sub_bit h i hi

theorem bit_high {a K i : Nat} (ha : a < 2 ^ K) (hi : ¬ i < K) : a.testBit i = false :=
  Nat.testBit_lt_two_pow (Nat.lt_of_lt_of_le ha (Nat.pow_le_pow_right (by omega) (by omega)))
theorem all_bit (K i : Nat) : (2 ^ K - 1).testBit i = decide (i < K) := Nat.testBit_two_pow_sub_one K i

theorem compl_compl {K b : Nat} (hb : b < 2 ^ K) : diff (2 ^ K - 1) (diff (2 ^ K - 1) b) = b := by
  apply Nat.eq_of_testBit_eq
  intro i
  rw [diff_bit, diff_bit, all_bit]
  by_cases hi : i < K
  · cases h : b.testBit i <;> simp [hi]
  · rw [bit_high hb hi]; simp [hi]

theorem compl_lt (K b : Nat) : diff (2 ^ K - 1) b < 2 ^ K := by
  have := diff_le (2 ^ K - 1) b
  have := Nat.two_pow_pos K
  omega

/-- A complement is a difference of numbers. -/
theorem compl_sub : ∀ (K b : Nat), b < 2 ^ K → diff (2 ^ K - 1) b + b = 2 ^ K - 1
  | 0, b, h => by
    have : b = 0 := by simpa using h
    subst this; rfl
  | K + 1, b, h => by
    have hp := Nat.two_pow_pos K
    have hb : b / 2 < 2 ^ K := by rw [Nat.pow_succ] at h; omega
    have ih := compl_sub K (b / 2) hb
    have e1 : diff (2 ^ (K + 1) - 1) b / 2 = diff (2 ^ K - 1) (b / 2) := by
      apply Nat.eq_of_testBit_eq
      intro i
      rw [← Nat.testBit_succ, diff_bit, diff_bit, Nat.testBit_succ, Nat.testBit_succ]
      have : (2 ^ (K + 1) - 1) / 2 = 2 ^ K - 1 := by rw [Nat.pow_succ]; omega
      rw [this]
    have e2 : diff (2 ^ (K + 1) - 1) b % 2 + b % 2 = 1 := by
      have h0 := diff_bit (2 ^ (K + 1) - 1) b 0
      rw [all_bit, Nat.testBit_zero, Nat.testBit_zero] at h0
      have hk : decide (0 < K + 1) = true := by simp
      rw [hk] at h0
      rcases Nat.mod_two_eq_zero_or_one b with hb2 | hb2
      · rw [hb2] at h0; simp at h0; omega
      · rw [hb2] at h0; simp at h0; omega
    rw [Nat.pow_succ] at *
    omega

theorem compl_anti {K b c : Nat} (hb : b < 2 ^ K) (hc : c < 2 ^ K) (h : b < c) : diff (2 ^ K - 1) c < diff (2 ^ K - 1) b := by
  have h1 := compl_sub K b hb
  have h2 := compl_sub K c hc
  omega

theorem union_diff {y a : Nat} (h : Sub y a) : y ||| diff a y = a := by
  apply Nat.eq_of_testBit_eq
  intro i
  rw [Nat.testBit_or, diff_bit]
  have := sub_bit h i
  cases hy : y.testBit i <;> cases ha : a.testBit i <;> simp_all

/-! ### The split, by y (what is taken out of a first) and by b (its complement) -/
/-- y and the rest of a lie outside two quorums of 'outer'. -/
def P (n : Nat) (inner outer : Nat → Bool) (a y : Nat) : Prop :=
  a < n ∧ inner a = true ∧ Sub y a ∧ outer (diff (n - 1) y) = true ∧ outer (diff (n - 1) (diff a y)) = true
/-- The same, told by b. -/
def Q (n : Nat) (inner outer : Nat → Bool) (a b : Nat) : Prop :=
  a < n ∧ inner a = true ∧ b < n ∧ outer b = true ∧ Sub (diff (n - 1) a) b ∧ outer (diff (n - 1) a ||| diff a b) = true

theorem third_eq {K a y : Nat} (ha : a < 2 ^ K) (hy : Sub y a) : diff (2 ^ K - 1) a ||| diff a (diff (2 ^ K - 1) y) = diff (2 ^ K - 1) (diff a y) := by
  apply Nat.eq_of_testBit_eq
  intro i
  rw [Nat.testBit_or, diff_bit, diff_bit, diff_bit, diff_bit, diff_bit, all_bit]
  have h := sub_bit hy i
  by_cases hi : i < K
  · cases h1 : a.testBit i <;> cases h2 : y.testBit i <;> simp_all
  · rw [bit_high ha hi] at h ⊢; simp [hi]

theorem P_Q {K : Nat} {inner outer : Nat → Bool} {a y : Nat} (h : P (2 ^ K) inner outer a y) : Q (2 ^ K) inner outer a (diff (2 ^ K - 1) y) := by
  obtain ⟨ha, hi, hy, h1, h2⟩ := h
  refine ⟨ha, hi, compl_lt K y, h1, ?_, by rw [third_eq ha hy]; exact h2⟩
  apply sub_of
  intro i h
  rw [diff_bit, all_bit] at h ⊢
  have := sub_bit hy i
  cases hy' : y.testBit i <;> simp_all

theorem Q_P {K : Nat} {inner outer : Nat → Bool} {a b : Nat} (h : Q (2 ^ K) inner outer a b) : P (2 ^ K) inner outer a (diff (2 ^ K - 1) b) := by
  obtain ⟨ha, hi, hb, h1, hs, h2⟩ := h
  have hy : Sub (diff (2 ^ K - 1) b) a := by
    apply sub_of
    intro i h
    rw [diff_bit, all_bit] at h
    cases hai : a.testBit i
    · have := sub_bit hs i (by rw [diff_bit, all_bit, hai]; simp_all)
      simp_all
    · rfl
  refine ⟨ha, hi, hy, by rw [compl_compl hb]; exact h1, ?_⟩
  rw [← third_eq ha hy, compl_compl hb]; exact h2

/-! ### The 'or'-convolution -/
def conv : Nat → (Nat → Int) → (Nat → Int) → Nat → Int
  | 0, f, g, s => f s * g s
  | K + 1, f, g, s => if s < 2 ^ K then conv K f g s else
      conv K (fun t => f (2 ^ K + t)) (fun t => g (2 ^ K + t)) (s - 2 ^ K) + (conv K f (fun t => g (2 ^ K + t)) (s - 2 ^ K) + conv K (fun t => f (2 ^ K + t)) g (s - 2 ^ K))

theorem T_conv : ∀ (K : Nat) (f g : Nat → Int) (s : Nat), s < 2 ^ K → T 1 K (conv K f g) s = T 1 K f s * T 1 K g s
  | 0, f, g, s, _ => rfl
  | K + 1, f, g, s, hs => by
    have ih := T_conv K
    rw [pow_succ'] at hs
    have low : ∀ u, u < 2 ^ K → T 1 K (conv (K + 1) f g) u = T 1 K f u * T 1 K g u := fun u hu => by
      rw [T_congr 1 K (conv (K + 1) f g) (conv K f g) u hu (fun t ht => by rw [conv, if_pos ht])]
      exact ih f g u hu
    rw [T, T, T]
    by_cases hk : s < 2 ^ K
    · rw [if_pos hk, if_pos hk, if_pos hk]
      exact low s hk
    · obtain ⟨u, rfl⟩ : ∃ u, s = 2 ^ K + u := ⟨s - 2 ^ K, by omega⟩
      have hu : u < 2 ^ K := by omega
      have e : 2 ^ K + u - 2 ^ K = u := by omega
      rw [if_neg hk, if_neg hk, if_neg hk, e, low u hu]
      have e2 : T 1 K (fun t => conv (K + 1) f g (2 ^ K + t)) u = T 1 K (fun t => conv K (fun t => f (2 ^ K + t)) (fun t => g (2 ^ K + t)) t + (conv K f (fun t => g (2 ^ K + t)) t + conv K (fun t => f (2 ^ K + t)) g t)) u := by
        apply T_congr _ _ _ _ _ hu
        intro t ht
        show conv (K + 1) f g (2 ^ K + t) = _
        rw [conv, if_neg (by omega)]
        have e3 : 2 ^ K + t - 2 ^ K = t := by omega
        rw [e3]
      rw [e2, T_add, T_add, ih _ _ u hu, ih _ _ u hu, ih _ _ u hu, Int.one_mul, Int.one_mul, Int.one_mul, Int.add_mul, Int.mul_add, Int.mul_add]
      omega

theorem conv_nonneg : ∀ (K : Nat) (f g : Nat → Int) (s : Nat), (∀ t, 0 ≤ f t) → (∀ t, 0 ≤ g t) → 0 ≤ conv K f g s
  | 0, f, g, s, hf, hg => Int.mul_nonneg (hf s) (hg s)
  | K + 1, f, g, s, hf, hg => by
    rw [conv]
    by_cases hk : s < 2 ^ K
    · rw [if_pos hk]; exact conv_nonneg K f g s hf hg
    · rw [if_neg hk]
      have h1 := conv_nonneg K (fun t => f (2 ^ K + t)) (fun t => g (2 ^ K + t)) (s - 2 ^ K) (fun t => hf _) (fun t => hg _)
      have h2 := conv_nonneg K f (fun t => g (2 ^ K + t)) (s - 2 ^ K) hf (fun t => hg _)
      have h3 := conv_nonneg K (fun t => f (2 ^ K + t)) g (s - 2 ^ K) (fun t => hf _) hg
      omega

theorem conv_le : ∀ (K : Nat) (f g : Nat → Int) (s : Nat), (∀ t, f t = 0 ∨ f t = 1) → (∀ t, g t = 0 ∨ g t = 1) → conv K f g s ≤ ((3 ^ K : Nat) : Int)
  | 0, f, g, s, hf, hg => by
    rw [conv]
    rcases hf s with h | h <;> rcases hg s with h' | h' <;> rw [h, h'] <;> decide
  | K + 1, f, g, s, hf, hg => by
    rw [conv]
    have e : 3 ^ (K + 1) = 3 ^ K + 3 ^ K + 3 ^ K := by rw [Nat.pow_succ]; omega
    have hp : 0 < 3 ^ K := Nat.pow_pos (by omega)
    by_cases hk : s < 2 ^ K
    · rw [if_pos hk]
      have := conv_le K f g s hf hg
      omega
    · rw [if_neg hk]
      have h1 := conv_le K (fun t => f (2 ^ K + t)) (fun t => g (2 ^ K + t)) (s - 2 ^ K) (fun t => hf _) (fun t => hg _)
      have h2 := conv_le K f (fun t => g (2 ^ K + t)) (s - 2 ^ K) hf (fun t => hg _)
      have h3 := conv_le K (fun t => f (2 ^ K + t)) g (s - 2 ^ K) (fun t => hf _) hg
      omega

theorem or_high (K u z : Nat) (hu : u < 2 ^ K) (hz : z < 2 ^ K) : (2 ^ K + u) ||| z = 2 ^ K + (u ||| z) := by
  have h1 := Nat.two_pow_add_eq_or_of_lt hu 1
  have h2 := Nat.two_pow_add_eq_or_of_lt (Nat.or_lt_two_pow hu hz) 1
  rw [Nat.mul_one] at h1 h2
  rw [h1, h2, Nat.or_assoc]
theorem or_high' (K u z : Nat) (hu : u < 2 ^ K) (hz : z < 2 ^ K) : u ||| (2 ^ K + z) = 2 ^ K + (u ||| z) := by
  rw [Nat.or_comm, or_high K z u hz hu, Nat.or_comm]
theorem or_both (K u z : Nat) (hu : u < 2 ^ K) (hz : z < 2 ^ K) : (2 ^ K + u) ||| (2 ^ K + z) = 2 ^ K + (u ||| z) := by
  have h1 := Nat.two_pow_add_eq_or_of_lt hu 1
  have h2 := Nat.two_pow_add_eq_or_of_lt hz 1
  have h3 := Nat.two_pow_add_eq_or_of_lt (Nat.or_lt_two_pow hu hz) 1
  rw [Nat.mul_one] at h1 h2 h3
  rw [h1, h2, h3]
  apply Nat.eq_of_testBit_eq
  intro i
  simp only [Nat.testBit_or]
  cases (2 ^ K).testBit i <;> simp

theorem conv_pos : ∀ (K : Nat) (f g : Nat → Int) (y z : Nat), (∀ t, 0 ≤ f t) → (∀ t, 0 ≤ g t) → y < 2 ^ K → z < 2 ^ K → f y = 1 → g z = 1 → 1 ≤ conv K f g (y ||| z)
  | 0, f, g, y, z, _, _, hy, hz, h1, h2 => by
    have e1 : y = 0 := by simpa using hy
    have e2 : z = 0 := by simpa using hz
    subst e1 e2
    show 1 ≤ f 0 * g 0
    rw [h1, h2]; decide
  | K + 1, f, g, y, z, hf, hg, hy, hz, h1, h2 => by
    have ih := conv_pos K
    rw [pow_succ'] at hy hz
    rw [conv]
    by_cases ky : y < 2 ^ K
    · by_cases kz : z < 2 ^ K
      · rw [if_pos (Nat.or_lt_two_pow ky kz)]
        exact ih f g y z hf hg ky kz h1 h2
      · obtain ⟨v, rfl⟩ : ∃ v, z = 2 ^ K + v := ⟨z - 2 ^ K, by omega⟩
        have hv : v < 2 ^ K := by omega
        rw [or_high' K y v ky hv, if_neg (by omega), Nat.add_sub_cancel_left]
        have a1 := conv_nonneg K (fun t => f (2 ^ K + t)) (fun t => g (2 ^ K + t)) (y ||| v) (fun t => hf _) (fun t => hg _)
        have a2 := ih f (fun t => g (2 ^ K + t)) y v hf (fun t => hg _) ky hv h1 h2
        have a3 := conv_nonneg K (fun t => f (2 ^ K + t)) g (y ||| v) (fun t => hf _) hg
        omega
    · obtain ⟨u, rfl⟩ : ∃ u, y = 2 ^ K + u := ⟨y - 2 ^ K, by omega⟩
      have hu : u < 2 ^ K := by omega
      by_cases kz : z < 2 ^ K
      · rw [or_high K u z hu kz, if_neg (by omega), Nat.add_sub_cancel_left]
        have a1 := conv_nonneg K (fun t => f (2 ^ K + t)) (fun t => g (2 ^ K + t)) (u ||| z) (fun t => hf _) (fun t => hg _)
        have a2 := conv_nonneg K f (fun t => g (2 ^ K + t)) (u ||| z) hf (fun t => hg _)
        have a3 := ih (fun t => f (2 ^ K + t)) g u z (fun t => hf _) hg hu kz h1 h2
        omega
      · obtain ⟨v, rfl⟩ : ∃ v, z = 2 ^ K + v := ⟨z - 2 ^ K, by omega⟩
        have hv : v < 2 ^ K := by omega
        rw [or_both K u v hu hv, if_neg (by omega), Nat.add_sub_cancel_left]
        have a1 := ih (fun t => f (2 ^ K + t)) (fun t => g (2 ^ K + t)) u v (fun t => hf _) (fun t => hg _) hu hv h1 h2
        have a2 := conv_nonneg K f (fun t => g (2 ^ K + t)) (u ||| v) hf (fun t => hg _)
        have a3 := conv_nonneg K (fun t => f (2 ^ K + t)) g (u ||| v) (fun t => hf _) hg
        omega

/-! ### Powers of two -/
theorem pow_of_and : ∀ (m n : Nat), n ≤ m → 1 ≤ n → n &&& (n - 1) = 0 → ∃ K, n = 2 ^ K
  | 0, n, h1, h2, _ => by omega
  | m + 1, n, hm, h1, h => by
    by_cases he : n % 2 = 0
    · have e1 : (n &&& (n - 1)) / 2 = (n / 2) &&& ((n - 1) / 2) := Nat.and_div_two
      have e2 : (n - 1) / 2 = n / 2 - 1 := by omega
      rw [h, e2] at e1
      obtain ⟨K, hK⟩ := pow_of_and m (n / 2) (by omega) (by omega) (by omega)
      exact ⟨K + 1, by rw [Nat.pow_succ, ← hK]; omega⟩
    · by_cases h3 : n = 1
      · exact ⟨0, h3⟩
      · have e1 : (n &&& (n - 1)) / 2 = (n / 2) &&& ((n - 1) / 2) := Nat.and_div_two
        have e2 : (n - 1) / 2 = n / 2 := by omega
        rw [h, e2, Nat.and_self] at e1
        omega

end Go.Proofs.Qxb6605532a.Plain
