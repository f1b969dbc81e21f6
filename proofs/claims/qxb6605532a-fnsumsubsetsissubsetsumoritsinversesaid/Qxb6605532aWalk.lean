/-
  THE SHARED WALKS: cloneWords (8), sumSubsets (20), ZZsumSubsets (10), sameWords (11).
-/
import Derived.Test.Qxb6605532aMem
import Derived.Test.Qxb6605532aPlain
import Derived.RegionTactic
import Derived.Lib.SliceRun
namespace Go.Proofs.Qxb6605532a.Walk
open Go.RowKit Go.Proofs.Qxb6605532a.Mem Go.Proofs.Qxb6605532a.Plain

theorem info29 : (Try.prog.info? 29).map (fun i => (i.zero, i.size, i.bytes)) = some (some (.int .u64 0), 1, 8) := by kernel_rfl

theorem make_words (n : Nat) (hn : n ≤ 4096) (w : World) :
    (Instr.makeSlice 22 (.int .i64 (n : Int)) (.int .i64 (n : Int))).run Try.prog w = .ok (.slice (some ⟨w.heap.size, 0, none⟩) n n) (w.alloc (.cells (row n (fun _ => 0)) 29)) := by
  obtain ⟨i, hi, hz, hs, hb⟩ := info_parts info29
  have := run_make (P := Try.prog) w 22 29 i _ Try.underlying22 hi hz .i64 .i64 (n : Int) (n : Int) (by omega) (by omega) (by rw [hb]; omega) (by omega)
  rw [hs, Int.toNat_natCast, made_words] at this
  exact this

theorem eq_nil (w : World) (a : Addr) (n c : Nat) : (binOp .eql 22 (.slice (some a) n c) (.slice none 0 0)).run Try.prog w = .ok (.bool false) w :=
  Lib.run_eql_slice_nil w 22 29 (some a) n c 0 0 Try.underlying22

theorem words_alloc (w : World) (n : Nat) (F : Nat → Int) : Words (w.alloc (.cells (row n F) 29)) w.heap.size n F := by
  show (w.heap.push _)[w.heap.size]? = _
  simp
theorem alloc_below (w : World) (o : Obj) : Below w.heap.size w (w.alloc o) := (Below.refl _ _).alloc (Nat.le_refl _) o
theorem step_if (F : Nat → Int) (z : Int) (j k : Nat) : (if j = k then F k else if j < k then F j else z) = if j < k + 1 then F j else z := by
  by_cases h1 : j = k
  · subst h1; simp
  · by_cases h2 : j < k
    · rw [if_neg h1, if_pos h2, if_pos (by omega)]
    · rw [if_neg h1, if_neg h2, if_neg (by omega)]

/-! ### cloneWords -/
theorem clone_nil (w : World) : Calls Try.prog 8 #[.slice none 0 0] w fun e w' => e = .returned (.slice none 0 0) ∧ w = w' := by
  have hq : ∀ w : World, (binOp .eql 22 (.slice none 0 0) (.slice none 0 0)).run Try.prog w = .ok (.bool true) w := fun w => Lib.run_eql_slice_nil w 22 29 none 0 0 0 0 Try.underlying22
  go_enter Try.func8, Try.ntmps8
  go_wp2
  go_ret
  exact ⟨rfl, rfl⟩

/-- An empty slice that is not nil, of whatever address. -/
theorem clone_empty (a : Addr) (cap : Nat) (F : Nat → Int) (w : World) :
    Calls Try.prog 8 #[.slice (some a) 0 cap] w fun e w' => e = .returned (.slice (some ⟨w.heap.size, 0, none⟩) 0 0) ∧ Words w' w.heap.size 0 F ∧ Below w.heap.size w w' ∧ w'.heap.size = w.heap.size + 1 := by
  have hq := eq_nil
  have hmk := make_words 0 (by omega)
  simp only [Int.natCast_zero] at hmk
  go_enter Try.func8, Try.ntmps8
  go_wp2
  refine wp_loop_rounds 1 ?_
  rw [rounds_succ]
  go_wp2
  go_ret
  exact ⟨rfl, (words_alloc w 0 _).congr (fun i hi => by omega), alloc_below w _, by simp⟩

set_option maxHeartbeats 400000 in
theorem clone_any (b off n cap : Nat) (F : Nat → Int) (w : World) (hn : n ≤ 4096) (hsrc : ∀ i, i < n → w.cell? ⟨b, off + i, none⟩ = some (.int .u64 (uw (F i)))) (hb : b < w.heap.size) :
    Calls Try.prog 8 #[.slice (some ⟨b, off, none⟩) n cap] w fun e w' => e = .returned (.slice (some ⟨w.heap.size, 0, none⟩) n n) ∧ Words w' w.heap.size n F ∧ Below w.heap.size w w' ∧ w'.heap.size = w.heap.size + 1 := by
  have hq := eq_nil
  have hmk := make_words n hn
  have hn' : (n : Int) ≤ 4096 := by omega
  go_enter Try.func8, Try.ntmps8
  go_wp2
  clear hq hmk
  go_loopw [4] (fun i wr => ∃ k : Nat, k ≤ n ∧ i = .int .i64 k ∧ Words wr w.heap.size n (fun j => if j < k then F j else 0) ∧ Upd w.heap.size (w.alloc (.cells (row n (fun _ => 0)) 29)) wr) (fun i _ => n - (intOf i).toNat)
  case atStart =>
    exact ⟨0, Nat.zero_le _, rfl, (words_alloc w n _).congr (fun i _ => by simp), Upd.refl _ _⟩
  case round =>
    obtain ⟨k, hk, rfl, hW, hU⟩ := hrel
    by_cases hlt : k < n
    · have hc : wr.cell? ⟨b, off + k, none⟩ = some (.int .u64 (uw (F k))) := by
        rw [((alloc_below w _).trans (hU.below (Nat.le_refl _))).cell (p := ⟨b, off + k, none⟩) hb]
        exact hsrc k hlt
      have hd := hW.cell hlt
      have hf := hW.free k
      go_wp2
      go_roundw
      case rel => exact ⟨k + 1, by omega, by go_num, (hW.set k (F k)).congr (fun j _ => step_if F 0 j k), hU.setCell k _⟩
      case measure => simp [intOf]; omega
    · go_wp2
      go_ret
      exact ⟨rfl, hW.congr (fun j hj => if_pos (by omega)), (alloc_below w _).trans (hU.below (Nat.le_refl _)), by rw [hU.size]; simp⟩

/-- A row of the call's own, copied. -/
theorem clone_own (b n : Nat) (F : Nat → Int) (w : World) (hn : n ≤ 4096) (hw : Words w b n F) :
    Calls Try.prog 8 #[.slice (some ⟨b, 0, none⟩) n n] w fun e w' => e = .returned (.slice (some ⟨w.heap.size, 0, none⟩) n n) ∧ Words w' w.heap.size n F ∧ Below w.heap.size w w' ∧ w'.heap.size = w.heap.size + 1 :=
  clone_any b 0 n n F w hn (fun i hi => by rw [Nat.zero_add]; exact hw.cell hi) hw.lt

/-! ### sumSubsets -/
/-- The sign of a pass. -/
def cf (inv : Bool) : Int := if inv then -1 else 1

/-- In the midst of a pass: the entries below k are done. -/
def mid (c : Int) (i : Nat) (F : Nat → Int) (k : Nat) (s : Nat) : Int := if s < k then pass c i F s else F s

theorem xor_bit : ∀ (i k : Nat), k.testBit i = true → k ^^^ 2 ^ i = k - 2 ^ i
  | 0, k, h => by
    have h1 : k % 2 = 1 := by simpa [Nat.testBit_zero] using h
    have e1 : (k ^^^ 1) / 2 = k / 2 := by rw [Nat.xor_div_two]; simp
    have e2 : ¬ (k ^^^ 1) % 2 = 1 := by rw [Nat.xor_mod_two_eq_one]; omega
    show k ^^^ 1 = k - 1
    omega
  | i + 1, k, h => by
    have h1 : (k / 2).testBit i = true := by rw [Nat.testBit_succ] at h; exact h
    have ih := xor_bit i (k / 2) h1
    have hg := bit_ge h1
    have e0 : 2 ^ (i + 1) / 2 = 2 ^ i := by rw [Nat.pow_succ]; omega
    have e1 : (k ^^^ 2 ^ (i + 1)) / 2 = k / 2 - 2 ^ i := by rw [Nat.xor_div_two, e0, ih]
    have e2 : (k ^^^ 2 ^ (i + 1)) % 2 = 1 ↔ k % 2 = 1 := by rw [Nat.xor_mod_two_eq_one, Nat.pow_succ]; omega
    rw [Nat.pow_succ] at *
    omega

theorem and_bit (k i : Nat) : k &&& 2 ^ i = if k.testBit i then 2 ^ i else 0 := by
  apply Nat.eq_of_testBit_eq
  intro j
  rw [Nat.testBit_and, Nat.testBit_two_pow]
  by_cases e : i = j
  · subst e; cases h : k.testBit i <;> simp
  · by_cases h : k.testBit i = true
    · rw [if_pos h, Nat.testBit_two_pow]; simp [e]
    · rw [if_neg h]; simp [e]

theorem and_hit {k i B : Nat} (hB : B = 2 ^ i) (hk : k < 4096) (hB2 : B ≤ 4096) (h : k.testBit i = true) : (bits .and .i64 (k : Int) (B : Int) == 0) = false := by
  have hp := Nat.two_pow_pos i
  rw [i64_and k B (by omega) (by omega), hB, and_bit, if_pos h]
  rw [← hB] at hp ⊢
  simp
  omega
theorem and_miss {k i B : Nat} (hB : B = 2 ^ i) (hk : k < 4096) (hB2 : B ≤ 4096) (h : ¬ k.testBit i = true) : (bits .and .i64 (k : Int) (B : Int) == 0) = true := by
  rw [i64_and k B (by omega) (by omega), hB, and_bit, if_neg h]
  rfl
theorem xor_hit {k i B : Nat} (hB : B = 2 ^ i) (hk : k < 4096) (hB2 : B ≤ 4096) (h : k.testBit i = true) : bits .xor .i64 (k : Int) (B : Int) = ((k - B : Nat) : Int) := by
  rw [i64_xor k B (by omega) (by omega), hB, xor_bit i k h]

theorem mid_here (c : Int) (i : Nat) (F : Nat → Int) (k : Nat) : mid c i F k k = F k := by simp [mid]
theorem mid_back {c : Int} {i : Nat} {F : Nat → Int} {k B : Nat} (hB : B = 2 ^ i) (h : k.testBit i = true) : mid c i F k (k - B) = F (k - B) := by
  have hp := Nat.two_pow_pos i
  have hg := bit_ge h
  have hb : (k - 2 ^ i).testBit i = false := by
    rw [← xor_bit i k h, Nat.testBit_xor, h, Nat.testBit_two_pow_self]; rfl
  subst hB
  unfold mid pass
  rw [if_pos (by omega), hb]; rfl

theorem mid_hit {c : Int} {i : Nat} {F : Nat → Int} {k B : Nat} {x : Int} (hB : B = 2 ^ i) (h : k.testBit i = true) (hx : x = F k + c * F (k - B)) (j : Nat) :
    (if j = k then x else mid c i F k j) = mid c i F (k + 1) j := by
  unfold mid
  by_cases e : j = k
  · rw [if_pos e, e, if_pos (by omega)]
    unfold pass
    rw [if_pos h, hx, hB]
  · rw [if_neg e]
    by_cases h2 : j < k
    · rw [if_pos h2, if_pos (by omega)]
    · rw [if_neg h2, if_neg (by omega)]
theorem mid_miss {c : Int} {i : Nat} {F : Nat → Int} {k : Nat} (h : ¬ k.testBit i = true) (j : Nat) : mid c i F k j = mid c i F (k + 1) j := by
  unfold mid
  by_cases e : j = k
  · rw [if_neg (by omega), if_pos (by omega), e]
    unfold pass
    rw [if_neg h]
  · by_cases h2 : j < k
    · rw [if_pos h2, if_pos (by omega)]
    · rw [if_neg h2, if_neg (by omega)]

theorem lt_twelve {i B n : Nat} (hB : B = 2 ^ i) (h : B < n) (hn : n ≤ 4096) : i + 1 ≤ 12 := by
  have h1 : 2 ^ i < 2 ^ 12 := by rw [← hB]; omega
  have := (Nat.pow_lt_pow_iff_right (a := 2) (by omega)).1 h1
  omega

set_option maxHeartbeats 1000000 in
theorem sum_any (inv : Bool) (b n : Nat) (F : Nat → Int) (w : World) (hn : n ≤ 4096) (hw : Words w b n F) :
    Calls Try.prog 20 #[.slice (some ⟨b, 0, none⟩) n n, .bool inv] w fun e w' => e = .returned (.tuple #[]) ∧ Words w' b n (op (cf inv) 12 F) ∧ Upd b w w' := by
  have hn' : (n : Int) ≤ 4096 := by omega
  obtain ⟨c, hc⟩ : ∃ c, cf inv = c := ⟨_, rfl⟩
  have HC : Hid (cf inv = c) := hc
  rw [hc]
  clear hc
  go_enter Try.func20, Try.ntmps20
  go_wp2
  go_loopw [4] (fun v wr => ∃ i B : Nat, B = 2 ^ i ∧ i ≤ 12 ∧ v = .int .i64 B ∧ Words wr b n (op c i F) ∧ Upd b w wr) (fun v _ => n - (intOf v).toNat)
  case atStart => exact ⟨0, 1, rfl, by omega, rfl, hw, Upd.refl _ _⟩
  case round =>
    obtain ⟨i, B, hB, hi, rfl, hW, hU⟩ := hrel
    have HB : Hid (B = 2 ^ i) := hB
    have hB1 : 1 ≤ B := by rw [hB]; exact Nat.two_pow_pos i
    have hB2 : B ≤ 4096 := by rw [hB]; exact Nat.pow_le_pow_right (n := 2) (by omega) hi
    clear hB
    by_cases hlt : B < n
    · go_wp2
      go_loopw [14] (fun v wq => ∃ k : Nat, k ≤ n ∧ v = .int .i64 k ∧ Words wq b n (mid c i (op c i F) k) ∧ Upd b w wq) (fun v _ => n - (intOf v).toNat)
      case atStart => exact ⟨0, by omega, rfl, hW.congr (fun j _ => by simp [mid]), hU⟩
      case round =>
        obtain ⟨k, hk, rfl, hWq, hUq⟩ := hrel
        by_cases hkn : k < n
        · by_cases hbit : k.testBit i = true
          · have ht := and_hit HB.out (by omega) hB2 hbit
            have hx := xor_hit HB.out (by omega) hB2 hbit
            have hBk : B ≤ k := by rw [HB.out]; exact bit_ge hbit
            have hc1 := hWq.cell hkn
            have hc2 := hWq.cell (i := k - B) (by omega)
            have hf := hWq.free k
            rw [mid_here] at hc1
            rw [mid_back HB.out hbit] at hc2
            have hlo : ((k - B : Nat) : Int) < n := by omega
            cases inv
            · go_wp2
              go_region
              all_goals go_wp2
              go_roundw
              case rel =>
                refine ⟨k + 1, by omega, by go_num, ?_, (hUq.setCell k _).drew⟩
                rw [uw_add]
                exact ((hWq.set k _).congr (fun j _ => mid_hit HB.out hbit (by rw [← HC.out]; simp [cf]) j)).drew
              case measure => simp [intOf]; omega
            · go_wp2
              go_region
              all_goals go_wp2
              go_roundw
              case rel =>
                refine ⟨k + 1, by omega, by go_num, ?_, (hUq.setCell k _).drew⟩
                rw [uw_sub]
                exact ((hWq.set k _).congr (fun j _ => mid_hit HB.out hbit (by rw [← HC.out]; simp [cf]; omega) j)).drew
              case measure => simp [intOf]; omega
          · have ht := and_miss HB.out (by omega) hB2 hbit
            go_wp2
            go_roundw
            case rel => exact ⟨k + 1, by omega, by go_num, hWq.congr (fun j _ => mid_miss hbit j), hUq⟩
            case measure => simp [intOf]; omega
        · go_wp2
          go_roundw
          case rel => exact ⟨i + 1, B * 2, by rw [HB.out, Nat.pow_succ], lt_twelve HB.out hlt hn, by go_num, hWq.congr (fun j hj => by simp only [mid]; rw [if_pos (by omega)]; rfl), hUq⟩
          case measure => simp [intOf]; omega
    · go_wp2
      go_end0
      refine ⟨rfl, hW.congr (fun j hj => ?_), hU⟩
      rw [op_stable c F i 12 j hi (by rw [← HB.out]; omega)]

/-- Of a nil slice nothing is read or written. -/
theorem sum_nil (inv : Bool) (w : World) : Calls Try.prog 20 #[.slice none 0 0, .bool inv] w fun e w' => e = .returned (.tuple #[]) ∧ w = w' := by
  go_enter Try.func20, Try.ntmps20
  go_wp2
  refine wp_loop_rounds 1 ?_
  rw [rounds_succ]
  go_wp2
  go_end0
  exact ⟨rfl, rfl⟩

theorem zsum_any (inv : Bool) (b n : Nat) (F : Nat → Int) (w : World) (hn : n ≤ 4096) (hw : Words w b n F) :
    Calls Try.prog 10 #[.slice (some ⟨b, 0, none⟩) n n, .bool inv] w fun e w' => e = .returned (.tuple #[]) ∧ Words w' b n (op (cf inv) 12 F) ∧ Upd b w w' := by
  go_enter Try.func10, Try.ntmps10
  go_wp2_with (go_at_call 20; refine (sum_any inv b n F _ hn hw).mono ?_; rintro e w' ⟨rfl, h1, h2⟩)
  go_end0
  exact ⟨rfl, h1, h2⟩
theorem zsum_nil (inv : Bool) (w : World) : Calls Try.prog 10 #[.slice none 0 0, .bool inv] w fun e w' => e = .returned (.tuple #[]) ∧ w = w' := by
  go_enter Try.func10, Try.ntmps10
  go_wp2_with (go_at_call 20; refine (sum_nil inv _).mono ?_; rintro e w' ⟨rfl, rfl⟩)
  go_end0
  exact ⟨rfl, rfl⟩

/-! ### sameWords -/
theorem same_nil (w : World) : Calls Try.prog 11 #[.slice none 0 0, .slice none 0 0] w fun e w' => e = .returned (.bool true) ∧ w = w' := by
  go_enter Try.func11, Try.ntmps11
  go_wp2
  refine wp_loop_rounds 1 ?_
  rw [rounds_succ]
  go_wp2
  go_ret
  exact ⟨rfl, rfl⟩

set_option maxHeartbeats 400000 in
theorem same_yes (b c n : Nat) (F G : Nat → Int) (w : World) (hn : n ≤ 4096) (hb : Words w b n F) (hc : Words w c n G) (he : ∀ i, i < n → F i = G i) :
    Calls Try.prog 11 #[.slice (some ⟨b, 0, none⟩) n n, .slice (some ⟨c, 0, none⟩) n n] w fun e w' => e = .returned (.bool true) ∧ Upd b w w' ∧ ∀ k : Nat, w'.heap[k]? = w.heap[k]? := by
  have hn' : (n : Int) ≤ 4096 := by omega
  go_enter Try.func11, Try.ntmps11
  go_wp2
  go_loopw [5] (fun v wr => ∃ k : Nat, k ≤ n ∧ v = .int .i64 k ∧ Upd b w wr ∧ ∀ k : Nat, wr.heap[k]? = w.heap[k]?) (fun v _ => n - (intOf v).toNat)
  case atStart => exact ⟨0, Nat.zero_le _, rfl, Upd.refl _ _, fun _ => rfl⟩
  case round =>
    obtain ⟨k, hk, rfl, hU, hh⟩ := hrel
    have HH : Hid (∀ k : Nat, wr.heap[k]? = w.heap[k]?) := hh
    clear hh
    by_cases hlt : k < n
    · have h1 : wr.cell? ⟨b, k, none⟩ = some (.int .u64 (uw (F k))) := Words.cell (by unfold Words; rw [HH.out b]; exact hb) hlt
      have h2 : wr.cell? ⟨c, k, none⟩ = some (.int .u64 (uw (F k))) := by rw [he k hlt]; exact Words.cell (by unfold Words; rw [HH.out c]; exact hc) hlt
      go_wp2
      go_region
      all_goals go_wp2
      go_roundw
      case rel => exact ⟨k + 1, by omega, by go_num, hU.drew, HH.out⟩
      case measure => simp [intOf]; omega
    · go_wp2
      go_ret
      exact ⟨rfl, hU, HH.out⟩
end Go.Proofs.Qxb6605532a.Walk
