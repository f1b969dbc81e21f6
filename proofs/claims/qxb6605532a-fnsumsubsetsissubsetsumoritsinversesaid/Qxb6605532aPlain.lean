/-
  THE PLAIN MATHEMATICS: no Go in sight. Sums over subsets of bits, over exact integers.
-/
namespace Go.Proofs.Qxb6605532a.Plain

/-- One pass of 'sumSubsets' (bit 2^i; c = 1 forward, c = -1 inverse). -/
def pass (c : Int) (i : Nat) (F : Nat → Int) (s : Nat) : Int := if s.testBit i then F s + c * F (s - 2 ^ i) else F s

/-- The passes for the bits 2^0 .. 2^(i-1), in this order. -/
def op (c : Int) : Nat → (Nat → Int) → Nat → Int
  | 0, F => F
  | i + 1, F => pass c i (op c i F)

/-- The same, by halves: the top bit first. -/
def T (c : Int) : Nat → (Nat → Int) → Nat → Int
  | 0, F, s => F s
  | K + 1, F, s => if s < 2 ^ K then T c K F s else T c K (fun t => F (2 ^ K + t)) (s - 2 ^ K) + c * T c K F (s - 2 ^ K)

theorem pow_succ' (K : Nat) : 2 ^ (K + 1) = 2 ^ K + 2 ^ K := by rw [Nat.pow_succ]; omega

theorem bit_ge {s i : Nat} (h : s.testBit i = true) : 2 ^ i ≤ s := Nat.ge_two_pow_of_testBit h

theorem op_shift (c : Int) (K : Nat) (F : Nat → Int) : ∀ (i s : Nat), i ≤ K → s < 2 ^ K → op c i F (2 ^ K + s) = op c i (fun t => F (2 ^ K + t)) s
  | 0, s, _, _ => rfl
  | i + 1, s, hi, hs => by
    have ih := fun s hs => op_shift c K F i s (by omega) hs
    show pass c i (op c i F) (2 ^ K + s) = pass c i (op c i _) s
    unfold pass
    rw [Nat.testBit_two_pow_add_gt (by omega)]
    by_cases hb : s.testBit i = true
    · have hg := bit_ge hb
      have e : 2 ^ K + s - 2 ^ i = 2 ^ K + (s - 2 ^ i) := Nat.add_sub_assoc hg _
      rw [if_pos hb, if_pos hb, e, ih s hs, ih (s - 2 ^ i) (Nat.lt_of_le_of_lt (Nat.sub_le _ _) hs)]
    · rw [if_neg hb, if_neg hb, ih s hs]

theorem op_eq_T (c : Int) : ∀ (K : Nat) (F : Nat → Int) (s : Nat), s < 2 ^ K → op c K F s = T c K F s
  | 0, F, s, _ => rfl
  | K + 1, F, s, hs => by
    have ih := op_eq_T c K
    show pass c K (op c K F) s = T c (K + 1) F s
    unfold pass T
    by_cases h : s < 2 ^ K
    · rw [Nat.testBit_lt_two_pow h, if_pos h, ← ih F s h]; rfl
    · rw [pow_succ'] at hs
      obtain ⟨u, rfl⟩ : ∃ u, s = 2 ^ K + u := ⟨s - 2 ^ K, by omega⟩
      have hu : u < 2 ^ K := by omega
      have e : 2 ^ K + u - 2 ^ K = u := by omega
      rw [if_neg h, Nat.testBit_two_pow_add_eq, Nat.testBit_lt_two_pow hu, e, op_shift c K F K u (Nat.le_refl _) hu, ih _ u hu, ih _ u hu]
      rfl

theorem op_stable (c : Int) (F : Nat → Int) (j : Nat) : ∀ (K s : Nat), j ≤ K → s < 2 ^ j → op c K F s = op c j F s
  | 0, s, hj, hs => by
    have : j = 0 := by omega
    rw [this]
  | K + 1, s, hj, hs => by
    by_cases e : j = K + 1
    · rw [e]
    · have hj' : j ≤ K := by omega
      have hs2 : s < 2 ^ K := Nat.lt_of_lt_of_le hs (Nat.pow_le_pow_right (by omega) hj')
      show pass c K (op c K F) s = _
      unfold pass
      rw [Nat.testBit_lt_two_pow hs2]
      exact op_stable c F j K s hj' hs

theorem T_stable (c : Int) (F : Nat → Int) (j K s : Nat) (hj : j ≤ K) (hs : s < 2 ^ j) : T c K F s = T c j F s := by
  have hs2 : s < 2 ^ K := Nat.lt_of_lt_of_le hs (Nat.pow_le_pow_right (by omega) hj)
  rw [← op_eq_T c K F s hs2, ← op_eq_T c j F s hs, op_stable c F j K s hj hs]

theorem T_congr (c : Int) : ∀ (K : Nat) (F G : Nat → Int) (s : Nat), s < 2 ^ K → (∀ t, t < 2 ^ K → F t = G t) → T c K F s = T c K G s
  | 0, F, G, s, hs, h => h s hs
  | K + 1, F, G, s, hs, h => by
    rw [pow_succ'] at hs h
    unfold T
    by_cases hk : s < 2 ^ K
    · rw [if_pos hk, if_pos hk]
      exact T_congr c K F G s hk (fun t ht => h t (by omega))
    · rw [if_neg hk, if_neg hk, T_congr c K F G (s - 2 ^ K) (by omega) (fun t ht => h t (by omega)),
        T_congr c K (fun t => F (2 ^ K + t)) (fun t => G (2 ^ K + t)) (s - 2 ^ K) (by omega) (fun t ht => h _ (by omega))]

theorem T_add (c : Int) : ∀ (K : Nat) (F G : Nat → Int) (s : Nat), T c K (fun t => F t + G t) s = T c K F s + T c K G s
  | 0, F, G, s => rfl
  | K + 1, F, G, s => by
    unfold T
    by_cases hk : s < 2 ^ K
    · rw [if_pos hk, if_pos hk, if_pos hk]
      exact T_add c K F G s
    · rw [if_neg hk, if_neg hk, if_neg hk, T_add c K F G, T_add c K (fun t => F (2 ^ K + t)) (fun t => G (2 ^ K + t)), Int.mul_add]
      omega

theorem T_mul (c d : Int) : ∀ (K : Nat) (F : Nat → Int) (s : Nat), T c K (fun t => d * F t) s = d * T c K F s
  | 0, F, s => rfl
  | K + 1, F, s => by
    unfold T
    by_cases hk : s < 2 ^ K
    · rw [if_pos hk, if_pos hk]
      exact T_mul c d K F s
    · rw [if_neg hk, if_neg hk, T_mul c d K F, T_mul c d K (fun t => F (2 ^ K + t)), Int.mul_add, Int.mul_left_comm]

/-- THE INVERSE UNDOES THE SUM (and the sum the inverse). -/
theorem T_back (c : Int) : ∀ (K : Nat) (F : Nat → Int) (s : Nat), s < 2 ^ K → T (-c) K (T c K F) s = F s
  | 0, F, s, _ => rfl
  | K + 1, F, s, hs => by
    have ih := T_back c K
    rw [pow_succ'] at hs
    have low : ∀ u, u < 2 ^ K → T (-c) K (T c (K + 1) F) u = F u := fun u hu => by
      rw [T_congr (-c) K (T c (K + 1) F) (T c K F) u hu (fun t ht => T_stable c F K (K + 1) t (by omega) ht)]
      exact ih F u hu
    rw [T]
    by_cases hk : s < 2 ^ K
    · rw [if_pos hk]
      exact low s hk
    · obtain ⟨u, rfl⟩ : ∃ u, s = 2 ^ K + u := ⟨s - 2 ^ K, by omega⟩
      have hu : u < 2 ^ K := by omega
      have e : 2 ^ K + u - 2 ^ K = u := by omega
      rw [if_neg hk, e, low u hu]
      have e2 : T (-c) K (fun t => T c (K + 1) F (2 ^ K + t)) u = T (-c) K (fun t => T c K (fun t => F (2 ^ K + t)) t + c * T c K F t) u := by
        apply T_congr _ _ _ _ _ hu
        intro t ht
        show T c (K + 1) F (2 ^ K + t) = _
        rw [T, if_neg (by omega)]
        have e3 : 2 ^ K + t - 2 ^ K = t := by omega
        rw [e3]
      rw [e2, T_add, T_mul, ih F u hu, ih _ u hu, Int.neg_mul]
      omega

/-- The sum of the first n values. -/
def sum (F : Nat → Int) : Nat → Int
  | 0 => 0
  | n + 1 => sum F n + F n

theorem sum_add (F : Nat → Int) (m : Nat) : ∀ n, sum F (m + n) = sum F m + sum (fun t => F (m + t)) n
  | 0 => by simp [sum]
  | n + 1 => by
    show sum F (m + n) + F (m + n) = sum F m + (sum (fun t => F (m + t)) n + F (m + n))
    rw [sum_add F m n]; omega

/-- THE TOTAL: the entry at 2^K - 1 holds the sum of the first 2^K values. -/
theorem T_total : ∀ (K : Nat) (F : Nat → Int), T 1 K F (2 ^ K - 1) = sum F (2 ^ K)
  | 0, F => by simp [T, sum]
  | K + 1, F => by
    have hp : 0 < 2 ^ K := Nat.two_pow_pos K
    rw [T, if_neg (by rw [pow_succ']; omega)]
    have e : 2 ^ (K + 1) - 1 - 2 ^ K = 2 ^ K - 1 := by rw [pow_succ']; omega
    rw [e, T_total K F, T_total K, pow_succ', sum_add]
    omega

end Go.Proofs.Qxb6605532a.Plain
