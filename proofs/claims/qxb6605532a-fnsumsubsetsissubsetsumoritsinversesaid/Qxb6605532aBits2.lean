/-
  THE PLAIN MATHEMATICS, MORE: the subsets of s, walked downward by t = (t-1) & s; what the two sums and the squares between them leave: the number of pairs.
-/
import Derived.Test.Qxb6605532aBits
namespace Go.Proofs.Qxb6605532a.Plain

theorem sub_half {y a : Nat} (h : Sub y a) : Sub (y / 2) (a / 2) := by
  unfold Sub at *
  have : (y &&& a) / 2 = y / 2 &&& a / 2 := Nat.and_div_two
  rw [← this, h]
theorem sub_odd {y a : Nat} (h : Sub y a) (hy : y % 2 = 1) : a % 2 = 1 := by
  have h1 := sub_bit h 0
  rw [Nat.testBit_zero, Nat.testBit_zero] at h1
  simpa using h1 (by simpa using hy)

/-- No subset of s lies between (t-1) & s and t. -/
theorem sub_next : ∀ (m s t u : Nat), t ≤ m → Sub t s → Sub u s → u < t → u ≤ (t - 1) &&& s
  | 0, s, t, u, hm, _, _, hu => by omega
  | m + 1, s, t, u, hm, ht, hs, hu => by
    have e1 : ((t - 1) &&& s) / 2 = (t - 1) / 2 &&& s / 2 := Nat.and_div_two
    by_cases ho : t % 2 = 1
    · -- t is odd: t - 1 is t without its lowest bit
      have e2 : (t - 1) / 2 = t / 2 := by omega
      have e3 : t / 2 &&& s / 2 = t / 2 := sub_half ht
      rw [e2, e3] at e1
      omega
    · have e2 : (t - 1) / 2 = t / 2 - 1 := by omega
      rw [e2] at e1
      have ih := sub_next m (s / 2) (t / 2) (u / 2) (by omega) (sub_half ht) (sub_half hs) (by omega)
      rw [← e1] at ih
      by_cases hu2 : u % 2 = 1
      · have hs2 := sub_odd hs hu2
        have e4 : ((t - 1) &&& s) % 2 = 1 := Nat.and_mod_two_eq_one.2 ⟨by omega, hs2⟩
        omega
      · omega

theorem sub_and (t s : Nat) : Sub (t &&& s) s := by
  unfold Sub
  rw [Nat.and_assoc, Nat.and_self]
theorem sub_self (s : Nat) : Sub s s := Nat.and_self s
theorem and_lt {t s : Nat} (h : 0 < t) : (t - 1) &&& s < t := by
  have := Nat.and_le_left (n := t - 1) (m := s)
  omega

/-- Does s lie outside a quorum of 'outer'? (1 or 0) -/
def ind (n : Nat) (outer : Nat → Bool) (s : Nat) : Int := if outer (diff (n - 1) s) = true then 1 else 0

/-- What 'pairs' holds in the end. -/
def pairs (n : Nat) (outer : Nat → Bool) : Nat → Int := op (-1) 12 (fun s => op 1 12 (ind n outer) s * op 1 12 (ind n outer) s)

theorem pairs_eq {K : Nat} (hK : K ≤ 12) (outer : Nat → Bool) (s : Nat) (hs : s < 2 ^ K) : pairs (2 ^ K) outer s = conv K (ind (2 ^ K) outer) (ind (2 ^ K) outer) s := by
  unfold pairs
  rw [op_stable (-1) _ K 12 s hK hs, op_eq_T (-1) K _ s hs]
  rw [T_congr (-1) K _ (T 1 K (conv K (ind (2 ^ K) outer) (ind (2 ^ K) outer))) s hs (fun t ht => by
    show op 1 12 _ t * op 1 12 _ t = _
    rw [op_stable 1 _ K 12 t hK ht, op_eq_T 1 K _ t ht, T_conv K _ _ t ht])]
  exact T_back 1 K _ s hs

theorem pairs_bd {K : Nat} (hK : K ≤ 12) (outer : Nat → Bool) (s : Nat) (hs : s < 2 ^ K) : 0 ≤ pairs (2 ^ K) outer s ∧ pairs (2 ^ K) outer s ≤ 18446744073709551615 := by
  rw [pairs_eq hK outer s hs]
  have h01 : ∀ t, ind (2 ^ K) outer t = 0 ∨ ind (2 ^ K) outer t = 1 := fun t => by
    unfold ind; by_cases h : outer (diff (2 ^ K - 1) t) = true
    · rw [if_pos h]; exact .inr rfl
    · rw [if_neg h]; exact .inl rfl
  have h0 : ∀ t, 0 ≤ ind (2 ^ K) outer t := fun t => by rcases h01 t with h | h <;> rw [h] <;> decide
  have h1 := conv_nonneg K _ _ s h0 h0
  have h2 := conv_le K _ _ s h01 h01
  have h3 : 3 ^ K ≤ 3 ^ 12 := Nat.pow_le_pow_right (by omega) hK
  have h4 : 3 ^ 12 = 531441 := rfl
  omega

/-- Where there is a split the count is not zero. -/
theorem pairs_pos {K : Nat} (hK : K ≤ 12) {inner outer : Nat → Bool} {a y : Nat} (h : P (2 ^ K) inner outer a y) : pairs (2 ^ K) outer a ≠ 0 := by
  obtain ⟨ha, _, hy, h1, h2⟩ := h
  rw [pairs_eq hK outer a ha]
  have h0 : ∀ t, 0 ≤ ind (2 ^ K) outer t := fun t => by
    unfold ind; by_cases h : outer (diff (2 ^ K - 1) t) = true
    · rw [if_pos h]; decide
    · rw [if_neg h]; decide
  have hp := conv_pos K (ind (2 ^ K) outer) (ind (2 ^ K) outer) y (diff a y) h0 h0 (Nat.lt_of_le_of_lt (sub_le hy) ha) (Nat.lt_of_le_of_lt (diff_le a y) ha)
    (by unfold ind; rw [if_pos h1]) (by unfold ind; rw [if_pos h2])
  rw [union_diff hy] at hp
  omega

end Go.Proofs.Qxb6605532a.Plain
