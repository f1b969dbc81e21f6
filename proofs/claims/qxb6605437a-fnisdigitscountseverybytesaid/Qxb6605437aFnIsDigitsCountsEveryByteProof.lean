/-
  The proof of Rows.FnIsDigitsCountsEveryByteSaid. The frame is what proof-skeleton wrote for this function; the walk is ours.
-/
import Derived.Test.Qxb6605437aRows
import Derived.Test.Qxb6605437aDig
import Derived.Below
import Derived.WalkKit
import Derived.ProofKit
import Derived.OpenShut
import Derived.ShutString
namespace Go.Proofs.Qxb6605437a.fnIsDigitsCountsEveryByte
open Go.ChangeShapes Go.WideShapes Go.ChangeAt Go.RowKit
open Go.ChangeMaps (open_string shut_string)
set_option linter.unusedVariables false      -- a walk need not use every 'w<i>' (that an integer argument fits its kind)

theorem own : ownKnob Try.prog.godebug = none := by kernel_rfl

theorem bytes_no (s : ByteArray) (w : World) (h : ¬ (s.size : Int) ≤ 1048576) (hs : s.size ≤ maxLen) :
    Calls Try.prog 10 #[.string s] w fun e w' => e = .returned (.bool false) ∧ w = w' := by
  unfold maxLen at hs
  go_enter Try.func10, Try.ntmps10
  go_wp2
  go_ret
  exact ⟨rfl, rfl⟩

theorem bytes_yes (s : ByteArray) (w : World) (h : (s.size : Int) ≤ 1048576) :
    Calls Try.prog 10 #[.string s] w fun e w' => e = .returned (.bool true) ∧ w = w' := by
  go_enter Try.func10, Try.ntmps10
  go_wp2
  go_ret
  exact ⟨rfl, rfl⟩

/-- THE PLAIN LAW: all are digits exactly when the digits are as many as the bytes. -/
theorem law (s : ByteArray) (h : 0 < s.size) : (Dig.digs s.data.toList == (Dig.cnt s.data.toList == (s.size : Int))) = true := by
  have e : s.data.toList.isEmpty = false := by
    cases hl : s.data.toList with
    | nil => have : s.data.toList.length = 0 := by rw [hl]; rfl
             simp at this; have h2 : s.size = 0 := by simpa using this
             omega
    | cons a l => rfl
  have hlen : (s.data.toList.length : Int) = s.size := by simp
  unfold Dig.digs
  rw [e]
  have := Dig.all_iff_cnt s.data.toList
  rw [hlen] at this
  by_cases hc : Dig.cnt s.data.toList = (s.size : Int)
  · simp [hc, this.2 hc]
  · have h2 : s.data.toList.all Dig.isDig = false := by
      rw [Bool.eq_false_iff]; exact fun hh => hc (this.1 hh)
    simp [hc, h2]
theorem law0 (s : ByteArray) (h : s.size = 0) : (!Dig.digs s.data.toList) = true := by
  have : s.data.toList = [] := List.length_eq_zero_iff.1 (by simpa using h)
  rw [this]; rfl

/-! ### THE WALK -/
set_option maxHeartbeats 400000 in
theorem walk (a0 : ByteArray) (w0 : a0.size ≤ maxLen) (w : World) :
    Calls Try.prog 5 #[.string a0] w fun e w' => e = .returned (.bool true) ∧ Below w.heap.size w w' := by
  have hs := w0
  unfold maxLen at w0
  by_cases h : (a0.size : Int) ≤ 1048576
  · by_cases hp : 0 < a0.size
    · go_enter Try.func5, Try.ntmps5
      go_wp2_with (first | (go_at_call 10; refine (bytes_yes _ _ h).mono ?_; rintro e w' ⟨rfl, rfl⟩) | (go_at_call 11; refine (Dig.zz_any _ _ hs).mono ?_; rintro e w' ⟨rfl, hb⟩) | (go_at_call 12; refine (Dig.count_any _ _ hs).mono ?_; rintro e w' ⟨rfl, rfl⟩))
      go_ret
      exact ⟨Dig.ret_bool (law a0 hp), hb⟩
    · go_enter Try.func5, Try.ntmps5
      go_wp2_with (first | (go_at_call 10; refine (bytes_yes _ _ h).mono ?_; rintro e w' ⟨rfl, rfl⟩) | (go_at_call 11; refine (Dig.zz_any _ _ hs).mono ?_; rintro e w' ⟨rfl, hb⟩) | (go_at_call 12; refine (Dig.count_any _ _ hs).mono ?_; rintro e w' ⟨rfl, rfl⟩))
      go_ret
      exact ⟨Dig.ret_bool (law0 a0 (by omega)), hb⟩
  · go_enter Try.func5, Try.ntmps5
    go_wp2_with (go_at_call 10; refine (bytes_no _ _ h hs).mono ?_; rintro e w' ⟨rfl, rfl⟩)
    go_ret
    exact ⟨rfl, Below.refl _ _⟩

/-! ### THE ROW's STEP: WRITTEN OUT: LEAVE IT -/
set_option maxRecDepth 100000 in
theorem lifted (os : Os) (started : os.Started) (H : Type) (enc : TypeId × Value → H) :
    ReturnsInHanded {} Try.checked os 5 .any (Rows.fnIsDigitsCountsEveryByteSpec.pre6 enc Try.prog Try.f5 Rows.fnIsDigitsCountsEveryByteRow.domain false) (Rows.fnIsDigitsCountsEveryByteSpec.post enc Try.prog Try.f5 false true false false) := by
  refine returnsInHanded_of_change (C := Try.checked) own started (by kernel_rfl) Try.func5
    (ChangeSpec.witness6 (enc := enc) (C := Try.checked) false ⟨#[], #[.string ByteArray.empty], []⟩ 8 (by kernel_rfl) (by kernel_rfl) (by kernel_rfl) (by kernel_rfl)) ?_
  intro W base args ds gs before hval0 hW hcnd _
  have hval : ∀ (j : Nat) t v, Try.f5.params[j]? = some t → args[j]? = some v → Value.okWide Try.prog W .any base t v := hval0
  have hW' := hW
  obtain ⟨p, q, hA0, hV, rfl, hfz, hnd⟩ := hW
  have hA : DataW.TrodAll enc Try.prog W 0 (fun _ => true) true Try.f5.params.toList args.toList ds p := hA0
  rw [Try.params5] at hA hval
  obtain ⟨v0, vs0, d0, ds0, p0, q0, hargs, rfl, rfl, h0, r0⟩ := trodAll_cons hA
  obtain ⟨rfl, rfl, rfl⟩ := trodAll_nil r0
  obtain rfl : args = #[v0] := by cases args; simp_all
  obtain ⟨rfl, rfl⟩ := trodVars_none hV
  obtain ⟨a0, rfl, rfl, rfl, w0⟩ := open_string Try.underlying9 (hval 0 9 v0 rfl rfl) h0
  clear hA0 hval0
  simp only [List.append_nil] at hW'
  refine (walk a0 w0 W).mono fun e W' ⟨he, hg⟩ => ?_
  subst he
  exact ⟨_, rfl, _, _, _, [], [], [], hW', trodAll_mk1 (shut_bool Try.underlying4 _), (trodAll_cons_mk (shut_string Try.underlying9 w0) trodAll_mk0), rfl, hg.frame _, fun h => by cases h⟩

theorem over : Rows.fnIsDigitsCountsEveryByteRow.holds Try.pinned (OpenSpec.ofChange Rows.fnIsDigitsCountsEveryByteSpec) :=
  OpenClaim.holds_of_wide 5 Try.f5 rfl rfl rfl rfl rfl rfl rfl ⟨rfl, rfl, rfl, rfl, rfl⟩ rfl rfl rfl rfl rfl (by kernel_rfl) Try.func5 (by kernel_rfl)
    (of_decide_eq_true (by kernel_rfl)) (by unfold Func.isWrapper; first | (rw [if_pos (by decide +kernel)]; kernel_rfl) | (rw [if_neg (by decide +kernel)]; exact ⟨rfl, rfl⟩))
    (fun os started H enc _ => lifted os started H enc)

/-- ████ THE STATEMENT ████ -/
theorem proved : Rows.FnIsDigitsCountsEveryByteSaid :=
  over
end Go.Proofs.Qxb6605437a.fnIsDigitsCountsEveryByte
