/-
  THE WALK OF upClosed (18).
-/
import Derived.Test.Qxb6605532aArgs
import Derived.Test.Qxb6605532aBits3
namespace Go.Proofs.Qxb6605532a.Quo
open Go.RowKit Go.Proofs.Qxb6605532a.Mem Go.Proofs.Qxb6605532a.Walk
open Go.Proofs.Qxb6605532a.Plain (Up)

theorem up_zero (a : Option Addr) (c : Nat) (w : World) : Calls Try.prog 18 #[.slice a 0 c] w fun e w' => e = .returned (.bool true) ∧ w = w' := by
  go_enter Try.func18, Try.ntmps18
  go_wp2_with fail
  refine wp_loop_rounds 1 ?_
  rw [rounds_succ]
  go_wp2_with fail
  go_ret
  exact ⟨rfl, rfl⟩

theorem up_row {n : Nat} {f : Nat → Bool} {k i B : Nat} (hB : B = 2 ^ i) (hn : n ≤ B) (h : ∀ j, j < i → f (k ||| 2 ^ j) = true) : ∀ j, 2 ^ j < n → f (k ||| 2 ^ j) = true := by
  intro j hj
  apply h
  have h1 : 2 ^ j < 2 ^ i := by omega
  exact (Nat.pow_lt_pow_iff_right (a := 2) (by omega)).1 h1

/-- What upClosed answers. -/
def UpAns (n : Nat) (f : Nat → Bool) (e : Ending) : Prop := ∃ r : Bool, e = .returned (.bool r) ∧ (r = true → Up n f)

set_option maxHeartbeats 1000000 in
theorem up_any (b off n cap K : Nat) (f : Nat → Bool) (w : World) (hn : n ≤ 4096) (h1 : 1 ≤ n) (HK : Hid (n = 2 ^ K)) (HC : Hid (∀ i, i < n → w.cell? ⟨b, off + i, none⟩ = some (.bool (f i)))) :
    Calls Try.prog 18 #[.slice (some ⟨b, off, none⟩) n cap] w fun e w' => w = w' ∧ UpAns n f e := by
  have hn' : (n : Int) ≤ 4096 := by omega
  go_enter Try.func18, Try.ntmps18
  go_wp2_with fail
  go_loop [3] (fun v => ∃ k : Nat, k ≤ n ∧ v = .int .i64 k ∧ ∀ s i, s < k → f s = true → 2 ^ i < n → f (s ||| 2 ^ i) = true) (fun v => n - (intOf v).toNat)
  case atStart => exact ⟨0, by omega, rfl, fun s i h => by omega⟩
  case round =>
    obtain ⟨k, hk, rfl, hup⟩ := hrel
    have HU : Hid (∀ s i, s < k → f s = true → 2 ^ i < n → f (s ||| 2 ^ i) = true) := hup
    clear hup
    by_cases hlt : k < n
    · have hck := HC.out k hlt
      by_cases hfk : f k = true
      · rw [hfk] at hck
        clear hfk
        go_wp2_with fail
        go_loop [4] (fun v => ∃ i B : Nat, B = 2 ^ i ∧ v = .int .i64 B ∧ B ≤ 8192 ∧ ∀ j, j < i → f (k ||| 2 ^ j) = true) (fun v => n - (intOf v).toNat)
        case atStart => exact ⟨0, 1, rfl, rfl, by omega, fun j h => by omega⟩
        case round =>
          obtain ⟨i, B, hB, rfl, hB3, hr⟩ := hrel
          have HB : Hid (B = 2 ^ i) := hB
          have HR : Hid (∀ j, j < i → f (k ||| 2 ^ j) = true) := hr
          have hB1 : 1 ≤ B := by rw [hB]; exact Nat.two_pow_pos i
          clear hB hr
          by_cases hbl : B < n
          · have a1 := i64_or k B (by omega) (by omega)
            have d1 : k ||| B < n := by rw [HK.out] at hlt hbl ⊢; exact Nat.or_lt_two_pow hlt hbl
            obtain ⟨c, hc⟩ : ∃ c, c = k ||| B := ⟨_, rfl⟩
            rw [← hc] at a1 d1
            have HCc : Hid (c = k ||| B) := hc
            clear hc
            have d1' : (c : Int) < n := by omega
            have cc := HC.out c d1
            by_cases hfc : f c = true
            · rw [hfc] at cc
              have HF : Hid (f c = true) := hfc
              clear hfc
              go_wp2_with fail
              go_round
              case rel =>
                refine ⟨i + 1, B * 2, by rw [HB.out, Nat.pow_succ], by go_num, by omega, fun j hj => ?_⟩
                by_cases e : j = i
                · subst e; rw [← HB.out, ← HCc.out]; exact HF.out
                · exact HR.out j (by omega)
              case measure => simp [intOf]; omega
            · have hfc' : f c = false := by simpa using hfc
              rw [hfc'] at cc
              clear hfc hfc'
              go_wp2_with fail
              go_ret
              exact ⟨rfl, false, rfl, fun h => by cases h⟩
          · go_wp2_with fail
            go_round
            case rel =>
              refine ⟨k + 1, by omega, by go_num, fun s j hs hf hj => ?_⟩
              by_cases e : s = k
              · subst e; exact up_row HB.out (by omega) HR.out j hj
              · exact HU.out s j (by omega) hf hj
            case measure => simp [intOf]; omega
      · have hfk' : f k = false := by simpa using hfk
        rw [hfk'] at hck
        have HF : Hid (¬ f k = true) := hfk
        clear hfk hfk'
        go_wp2_with fail
        go_round
        case rel =>
          refine ⟨k + 1, by omega, by go_num, fun s j hs hf hj => ?_⟩
          by_cases e : s = k
          · subst e; exact absurd hf HF.out
          · exact HU.out s j (by omega) hf hj
        case measure => simp [intOf]; omega
    · go_wp2_with fail
      go_ret
      exact ⟨rfl, true, rfl, fun _ s i hs => HU.out s i (by omega)⟩

end Go.Proofs.Qxb6605532a.Quo
