/-
  The proof of Rows.FnSumSubsetsIsSubsetSumOrItsInverseSaid. The frame is what proof-skeleton wrote for this function; the walk is ours.
-/
import Derived.Test.Qxb6605532aRows
import Derived.Test.Qxb6605532aSubs
import Derived.WalkKit
import Derived.ProofKit
import Derived.OpenShut
import Derived.ShutString
import Derived.ChangeOld
import Derived.Below
namespace Go.Proofs.Qxb6605532a.fnSumSubsetsIsSubsetSumOrItsInverse
open Go.ChangeShapes Go.WideShapes Go.ChangeAt Go.RowKit
open Go.ChangeMaps (open_string shut_string)
set_option linter.unusedVariables false

theorem own : ownKnob Try.prog.godebug = none := by kernel_rfl
theorem laidOut : laidOutB Try.prog = true := by kernel_rfl

/-- WHAT THE WALK IS TOLD OF A SLICE OF INTEGERS THAT CAME IN: it is nil; or it leads to a row of 'cap' cells, the numbers 'zs' (the first 'len' are its elements, the rest its spare room), each fitting its kind. -/
def IsRow (k : IntKind) (w : World) (a : Option Addr) (len cap : Nat) (zs : List Int) : Prop :=
  (a = none ∧ len = 0 ∧ cap = 0 ∧ zs = []) ∨
  ∃ x, a = some x ∧ len ≤ cap ∧ cap ≤ maxLen ∧ zs.length = cap ∧ (∀ i, i < zs.length → w.cell? (x.add i) = some (.int k (zs.getD i 0))) ∧ ∀ n ∈ zs, (Lit.int k n).wf = true

open Go.Proofs.Qxb6605532a.Mem Go.Proofs.Qxb6605532a.Walk Go.Proofs.Qxb6605532a.Subs
open Go.Proofs.Qxb6605532a.Plain (op tot tot_op)
theorem bytes_no (a : Option Addr) (n cap : Nat) (inv : Bool) (w : World) (h : ¬ (n : Int) ≤ 1048576) :
    Calls Try.prog 7 #[.slice a n cap, .bool inv] w fun e w' => e = .returned (.bool false) ∧ w = w' := by
  go_enter Try.func7, Try.ntmps7
  go_wp2
  go_ret
  exact ⟨rfl, rfl⟩

theorem bytes_yes (a : Option Addr) (n cap : Nat) (inv : Bool) (w : World) (h : (n : Int) ≤ 1048576) :
    Calls Try.prog 7 #[.slice a n cap, .bool inv] w fun e w' => e = .returned (.bool true) ∧ w = w' := by
  go_enter Try.func7, Try.ntmps7
  go_wp2
  go_ret
  exact ⟨rfl, rfl⟩

/-- THE PLAIN LAW: the passes leave the sum over the subsets. -/
theorem law (inv : Bool) (F : Nat → Int) (s : Nat) (hs : s < 4096) : op (cf inv) 12 F s = tot inv F s := (tot_op inv F s hs).symm

set_option maxHeartbeats 1000000 in
theorem core (a : Addr) (n cap : Nat) (inv : Bool) (F : Nat → Int) (w : World) (hn : n ≤ 4096) (hcl : Hid (Calls Try.prog 8 #[.slice (some a) n cap] w (Cloned n F w))) :
    Calls Try.prog 3 #[.slice (some a) n cap, .bool inv] w fun e w' => e = .returned (.bool true) ∧ Below w.heap.size w w' := by
  have hn' : (n : Int) ≤ 4096 := by omega
  go_enter Try.func3, Try.ntmps3
  go_wp2_with (go_at_call 7; refine (bytes_yes _ _ _ _ _ (by omega)).mono ?_; rintro e w' ⟨rfl, rfl⟩)
  refine hcl.out.mono ?_
  rintro e w1 ⟨b0, rfl, W1, D1, hb0⟩
  clear hcl
  go_wp2_with fail
  refine (walk_any inv b0 n F w1 hn W1).mono ?_
  rintro e w2 ⟨b1, rfl, T2, E2, hb1⟩
  have W2 : Words w2 b0 n F := below_words E2 W1.lt W1
  have D2 : Below w.heap.size w w2 := next D1 D1.size E2
  have k1 : w.heap.size ≤ b1 := Nat.le_trans D1.size hb1
  clear W1 D1 E2 hb1
  go_wp2_with fail
  refine (clone_own' b0 n F w2 hn W2).mono ?_
  rintro e w3 ⟨b2, rfl, G3, E3, hb2⟩
  have hne : b1 ≠ b2 := Nat.ne_of_lt (Nat.lt_of_lt_of_le T2.lt hb2)
  have T3 : Words w3 b1 n (tot inv F) := below_words E3 T2.lt T2
  have k2 : w.heap.size ≤ b2 := Nat.le_trans D2.size hb2
  have D3 : Below w.heap.size w w3 := next D2 D2.size E3
  clear W2 D2 E3 hb2 T2
  go_wp2_with fail
  refine (zsum_any inv b2 n F w3 hn G3).mono ?_
  rintro e w4 ⟨rfl, G4, U4⟩
  have T4 : Words w4 b1 n (tot inv F) := U4.words hne T3
  have D4 : Below w.heap.size w w4 := D3.trans (U4.below k2)
  clear T3 D3 U4 G3
  go_wp2_with fail
  refine (same_yes' b2 b1 n _ _ w4 hn G4 T4 (fun s hs => law inv F s (by omega))).mono ?_
  rintro e w5 ⟨rfl, E5⟩
  go_wp2_with fail
  go_ret
  exact ⟨rfl, next D4 D4.size E5⟩

theorem core_nil (inv : Bool) (w : World) : Calls Try.prog 3 #[.slice none 0 0, .bool inv] w fun e w' => e = .returned (.bool true) ∧ Below w.heap.size w w' := by
  go_enter Try.func3, Try.ntmps3
  go_wp2_with (first | (go_at_call 7; refine (bytes_yes _ _ _ _ _ (by decide)).mono ?_; rintro e w' ⟨rfl, rfl⟩) | (go_at_call 8; refine (clone_nil _).mono ?_; rintro e w' ⟨rfl, rfl⟩))
  refine (walk_nil inv w).mono ?_
  rintro e w2 ⟨b1, rfl, T2, E2, hb1⟩
  clear T2 hb1
  go_wp2_with (first | (go_at_call 8; refine (clone_nil _).mono ?_; rintro e w' ⟨rfl, rfl⟩) | (go_at_call 10; refine (zsum_nil _ _).mono ?_; rintro e w' ⟨rfl, rfl⟩) | (go_at_call 11; refine (same_zero _ _ _ _ _).mono ?_; rintro e w' ⟨rfl, rfl⟩))
  go_ret
  exact ⟨rfl, E2⟩

/-! ### THE WALK -/
theorem walk (a0 : Option Addr) (len0 cap0 : Nat) (z0 : List Int) (a1 : Bool) (w : World) (w0 : IsRow .u64 w a0 len0 cap0 z0) :
    Calls Try.prog 3 #[.slice a0 len0 cap0, .bool a1] w fun e w' => e = .returned (.bool true) ∧ Below w.heap.size w w' := by
  rcases w0 with ⟨rfl, rfl, rfl, rfl⟩ | ⟨x, rfl, hlc, hcm, hz, hcell, hwf⟩
  · exact core_nil a1 w
  · unfold maxLen at hcm
    by_cases h1 : (len0 : Int) ≤ 1048576
    · by_cases h2 : (len0 : Int) ≤ 4096
      · exact core x len0 cap0 a1 (fun i => z0.getD i 0) w (by omega) (clone_arg x len0 cap0 z0 w (by omega) (by omega) hcell hwf)
      · go_enter Try.func3, Try.ntmps3
        go_wp2_with (go_at_call 7; refine (bytes_yes _ _ _ _ _ h1).mono ?_; rintro e w' ⟨rfl, rfl⟩)
        go_ret
        exact ⟨rfl, Below.refl _ _⟩
    · go_enter Try.func3, Try.ntmps3
      go_wp2_with (go_at_call 7; refine (bytes_no _ _ _ _ _ h1).mono ?_; rintro e w' ⟨rfl, rfl⟩)
      go_ret
      exact ⟨rfl, Below.refl _ _⟩

/-! ### THE ROW's STEP: WRITTEN OUT: LEAVE IT -/
set_option maxRecDepth 100000 in
theorem lifted (os : Os) (started : os.Started) (H : Type) (enc : TypeId × Value → H) :
    ReturnsInHanded {} Try.checked os 3 .any (Rows.fnSumSubsetsIsSubsetSumOrItsInverseSpec.pre6 enc Try.prog Try.f3 Rows.fnSumSubsetsIsSubsetSumOrItsInverseRow.domain false) (Rows.fnSumSubsetsIsSubsetSumOrItsInverseSpec.post enc Try.prog Try.f3 false true false false) := by
  refine returnsInHanded_of_change (C := Try.checked) own started (by kernel_rfl) Try.func3
    (ChangeSpec.witness6 (enc := enc) (C := Try.checked) false ⟨#[], #[.slice none 0 0, .bool false], []⟩ 8 (by kernel_rfl) (by kernel_rfl) (by kernel_rfl) (by kernel_rfl)) ?_
  intro W base args ds gs before hval0 hW hcnd _
  have hval : ∀ (j : Nat) t v, Try.f3.params[j]? = some t → args[j]? = some v → Value.okWide Try.prog W .any base t v := hval0
  have hW' := hW
  obtain ⟨p, q, hA0, hV, rfl, hfz, hnd⟩ := hW
  have hA : DataW.TrodAll enc Try.prog W 0 (fun _ => true) true Try.f3.params.toList args.toList ds p := hA0
  rw [Try.params3] at hA hval
  obtain ⟨v0, vs0, d0, ds0, p0, q0, hargs, rfl, rfl, h0, r0⟩ := trodAll_cons hA
  obtain ⟨v1, vs1, d1, ds1, p1, q1, rfl, rfl, rfl, h1, r1⟩ := trodAll_cons r0
  obtain ⟨rfl, rfl, rfl⟩ := trodAll_nil r1
  obtain rfl : args = #[v0, v1] := by cases args; simp_all
  obtain ⟨rfl, rfl⟩ := trodVars_none hV
  obtain ⟨a0, len0, cap0, rfl⟩ := okWide_slice Try.underlying22 (hval 0 22 v0 rfl rfl)
  have k0 := h0
  have lt0 : ∀ x ∈ p0, x.block < W.heap.size := by obtain ⟨m, hm⟩ := k0; exact DataW.trod_lt m _ _ _ hm
  obtain ⟨z0, w0⟩ : ∃ zs, IsRow .u64 W a0 len0 cap0 zs := by
    obtain ⟨fuel, hf⟩ := h0
    rcases open_ints Try.underlying22 Try.underlying29 (by kernel_rfl) hf with ⟨hcs, _⟩ | ⟨x, l, c, zs, hcs, _, hl, hm, hz, _, hcell, hwz⟩
    · simp [Value.cells] at hcs
      obtain ⟨rfl, rfl, rfl⟩ := hcs
      exact ⟨[], .inl ⟨rfl, rfl, rfl, rfl⟩⟩
    · simp [Value.cells] at hcs
      obtain ⟨rfl, rfl, rfl⟩ := hcs
      exact ⟨zs, .inr ⟨_, rfl, hl, hm, by simpa using hz, hcell, hwz⟩⟩
  obtain ⟨a1, rfl, rfl, rfl⟩ := open_bool Try.underlying4 (hval 1 4 v1 rfl rfl) h1
  clear hA0 hval0
  refine (walk a0 len0 cap0 z0 a1 W w0).mono fun e W' ⟨he, bel⟩ => ?_
  subst he
  exact ⟨_, rfl, _, _, _, [], _, [], hW', trodAll_mk1 (shut_bool Try.underlying4 _), (trodAll_cons_mk (Below.trod laidOut (by kernel_rfl) (of_decide_eq_true (by kernel_rfl)) k0 bel lt0) (trodAll_cons_mk (shut_bool Try.underlying4 _) trodAll_mk0)), rfl, bel.frame _, fun h => by cases h⟩

theorem over : Rows.fnSumSubsetsIsSubsetSumOrItsInverseRow.holds Try.pinned (OpenSpec.ofChange Rows.fnSumSubsetsIsSubsetSumOrItsInverseSpec) :=
  OpenClaim.holds_of_wide 3 Try.f3 rfl rfl rfl rfl rfl rfl rfl ⟨rfl, rfl, rfl, rfl, rfl⟩ rfl rfl rfl rfl rfl (by kernel_rfl) Try.func3 (by kernel_rfl)
    (of_decide_eq_true (by kernel_rfl)) (by unfold Func.isWrapper; first | (rw [if_pos (by decide +kernel)]; kernel_rfl) | (rw [if_neg (by decide +kernel)]; exact ⟨rfl, rfl⟩))
    (fun os started H enc _ => lifted os started H enc)

/-- ████ THE STATEMENT ████ -/
theorem proved : Rows.FnSumSubsetsIsSubsetSumOrItsInverseSaid := over
end Go.Proofs.Qxb6605532a.fnSumSubsetsIsSubsetSumOrItsInverse
