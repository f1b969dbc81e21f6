/-
  The proof of Rows.FnIsDigitsSplitsOverConcatenationSaid. The frame is what proof-skeleton wrote for this function; the walk is ours.
-/
import Derived.Test.Qxb6605437aRows
import Derived.Test.Qxb6605437aDig
import Derived.Below
import Derived.WalkKit
import Derived.ProofKit
import Derived.OpenShut
import Derived.ShutString
namespace Go.Proofs.Qxb6605437a.fnIsDigitsSplitsOverConcatenation
open Go.ChangeShapes Go.WideShapes Go.ChangeAt Go.RowKit
open Go.ChangeMaps (open_string shut_string)
set_option linter.unusedVariables false      -- a walk need not use every 'w<i>' (that an integer argument fits its kind)

theorem own : ownKnob Try.prog.godebug = none := by kernel_rfl

theorem bytes_no (s t : ByteArray) (b : Int) (w : World) (h : ¬ (s.size : Int) + t.size ≤ 1048576) (hs : s.size ≤ maxLen) (ht : t.size ≤ maxLen) :
    Calls Try.prog 13 #[.string s, .string t, .int .u8 b] w fun e w' => e = .returned (.bool false) ∧ w = w' := by
  unfold maxLen at hs ht
  by_cases h1 : (s.size : Int) ≤ 1048576
  · by_cases h2 : (t.size : Int) ≤ 1048576
    all_goals
      go_enter Try.func13, Try.ntmps13
      go_wp2
      go_ret
      exact ⟨rfl, rfl⟩
  · go_enter Try.func13, Try.ntmps13
    go_wp2
    go_ret
    exact ⟨rfl, rfl⟩

theorem bytes_yes (s t : ByteArray) (b : Int) (w : World) (h : (s.size : Int) + t.size ≤ 1048576) :
    Calls Try.prog 13 #[.string s, .string t, .int .u8 b] w fun e w' => e = .returned (.bool true) ∧ w = w' := by
  go_enter Try.func13, Try.ntmps13
  go_wp2
  go_ret
  exact ⟨rfl, rfl⟩


theorem one_back (c : UInt8) (w : World) : (convert 28 9 (.slice (some ⟨w.heap.size, 0, none⟩) 1 1)).run Try.prog (w.alloc (.cells #[.int .u8 (c.toNat : Int)] 5)) = .ok (.string ⟨#[c]⟩) (w.alloc (.cells #[.int .u8 (c.toNat : Int)] 5)) := by
  refine run_convert_bytes_back (P := Try.prog) _ 28 9 5 ⟨w.heap.size, 0, none⟩ 1 [c] Try.underlying28 Try.underlying5 Try.underlying9 ?_
  intro j hj
  have : j = 0 := by simpa using hj
  subst this
  show (w.alloc _).cell? ⟨w.heap.size, 0, none⟩ = _
  rw [World.cell?_alloc_mark]; rfl


theorem next {w a b : World} (h : Below w.heap.size w a) (k : Below a.heap.size a b) : Below w.heap.size w b := h.trans (k.mono h.size)

theorem size_app (a b : ByteArray) (h : (a.size : Int) + b.size ≤ 1048576) : (a ++ b).size ≤ maxLen := by
  unfold maxLen; rw [ByteArray.size_append]; omega


theorem empty_app (a b : ByteArray) : (a ++ b).toList.isEmpty = (a.toList.isEmpty && b.toList.isEmpty) := by
  simp only [ByteArray.toList_eq, ByteArray.data_append, Array.toList_append]
  generalize a.data.toList = l
  cases l <;> simp

theorem digs_app (l m : List UInt8) : Dig.digs (l ++ m) = (!(l.isEmpty && m.isEmpty) && (l.all Dig.isDig && m.all Dig.isDig)) := by
  unfold Dig.digs
  rw [List.all_append]
  cases l <;> simp

/-- THE PLAIN LAW, one row a case: s or t empty; s all digits or not. -/
theorem parts (a0 a1 : ByteArray) :
    (a0.toList.isEmpty = true ∧ a1.toList.isEmpty = true ∧ (a0 ++ a1).toList.isEmpty = true ∧ Dig.digs (a0.data.toList ++ a1.data.toList) = false) ∨
    (a0.toList.isEmpty = true ∧ a1.toList.isEmpty = false ∧ (a0 ++ a1).toList.isEmpty = false ∧ Dig.digs (a0.data.toList ++ a1.data.toList) = Dig.digs a1.data.toList) ∨
    (a0.toList.isEmpty = false ∧ (a0 ++ a1).toList.isEmpty = false ∧ Dig.digs a0.data.toList = true ∧ a1.toList.isEmpty = true ∧ Dig.digs (a0.data.toList ++ a1.data.toList) = true) ∨
    (a0.toList.isEmpty = false ∧ (a0 ++ a1).toList.isEmpty = false ∧ Dig.digs a0.data.toList = true ∧ a1.toList.isEmpty = false ∧ Dig.digs (a0.data.toList ++ a1.data.toList) = Dig.digs a1.data.toList) ∨
    (a0.toList.isEmpty = false ∧ (a0 ++ a1).toList.isEmpty = false ∧ Dig.digs a0.data.toList = false ∧ Dig.digs (a0.data.toList ++ a1.data.toList) = false) := by
  rw [empty_app, digs_app, Dig.toList_data, Dig.toList_data]
  unfold Dig.digs
  generalize a0.data.toList = l
  generalize a1.data.toList = m
  cases l <;> cases m <;> simp
  · rename_i b l
    cases hd : (Dig.isDig b && l.all Dig.isDig) <;> simp_all
  · rename_i b l c m
    cases hd : Dig.isDig b <;> cases hl : l.all Dig.isDig <;> simp_all

theorem table (c : UInt8) : (48 ≤ (c.toNat : Int) ∧ (c.toNat : Int) ≤ 57 ∧ Dig.digs [c] = true) ∨ (48 ≤ (c.toNat : Int) ∧ 57 < (c.toNat : Int) ∧ Dig.digs [c] = false) ∨ ((c.toNat : Int) < 48 ∧ True ∧ Dig.digs [c] = false) := by
  have e : Dig.digs [c] = Dig.isDig c := by simp [Dig.digs]
  rw [e]
  by_cases hd : Dig.isDig c = true
  · have := (Dig.isDig_iff c).1 hd
    exact .inl ⟨this.1, this.2, hd⟩
  · have hn : ¬ (48 ≤ (c.toNat : Int) ∧ (c.toNat : Int) ≤ 57) := fun h => hd ((Dig.isDig_iff c).2 h)
    have hf : Dig.isDig c = false := by simpa using hd
    by_cases h1 : 48 ≤ (c.toNat : Int)
    · exact .inr (.inl ⟨h1, by omega, hf⟩)
    · exact .inr (.inr ⟨by omega, trivial, hf⟩)

set_option maxHeartbeats 4000000 in
theorem core (a0 : ByteArray) (a1 : ByteArray) (c : UInt8) (hs : a0.size ≤ maxLen) (ht : a1.size ≤ maxLen) (w : World)
    (h : (a0.size : Int) + a1.size ≤ 1048576) (hp0 : (a0.size : Int) ≤ 524288) (hp1 : (a1.size : Int) ≤ 524288) :
    Calls Try.prog 6 #[.string a0, .string a1, .int .u8 (c.toNat : Int)] w fun e w' => e = .returned (.bool true) ∧ Below w.heap.size w w' := by
  have hb1 := one_back c w
  have hst := size_app a0 a1 h
  rcases table c with ⟨t1, t2, t3⟩ | ⟨t1, t2, t3⟩ | ⟨t1, t2, t3⟩
  all_goals
    rcases parts a0 a1 with ⟨e0, e1, e2, e3⟩ | ⟨e0, e1, e2, e3⟩ | ⟨e0, e1, e2, e3, e4⟩ | ⟨e0, e1, e2, e3, e4⟩ | ⟨e0, e1, e2, e3⟩
    all_goals
      go_enter Try.func6, Try.ntmps6
      go_wp2_with (first | (go_at_call 13; refine (bytes_yes _ _ _ _ h).mono ?_; rintro e w' ⟨rfl, rfl⟩) | (go_at_call 11; refine (Dig.zz_any _ _ ?hsz).mono ?_; (case hsz => first | assumption | (unfold maxLen; show 1 ≤ _; omega)); rintro e w' ⟨rfl, b2⟩; have B := next (by first | exact B | exact (Below.refl _ _).alloc (Nat.le_refl _) _) b2; clear b2))
      go_ret
      exact ⟨Dig.ret_bool (by first | rfl | (simp; done) | (simp; exact t2)), B⟩


/-! ### THE WALK -/
set_option maxHeartbeats 400000 in
theorem walk (a0 : ByteArray) (a1 : ByteArray) (a2 : Int) (w0 : a0.size ≤ maxLen) (w1 : a1.size ≤ maxLen) (w2 : (Lit.int .u8 a2).wf = true) (w : World) :
    Calls Try.prog 6 #[.string a0, .string a1, .int .u8 a2] w fun e w' => e = .returned (.bool true) ∧ Below w.heap.size w w' := by
  have hs := w0
  have ht := w1
  have bd := bounds_u8 w2
  obtain ⟨c, rfl⟩ : ∃ c : UInt8, a2 = (c.toNat : Int) := ⟨UInt8.ofNat a2.toNat, by simp; omega⟩
  unfold maxLen at w0 w1
  clear w2 bd
  by_cases h : (a0.size : Int) + a1.size ≤ 1048576
  · by_cases hp0 : (a0.size : Int) ≤ 524288
    · by_cases hp1 : (a1.size : Int) ≤ 524288
      · exact core a0 a1 c hs ht w h hp0 hp1
      · go_enter Try.func6, Try.ntmps6
        go_wp2_with (go_at_call 13; refine (bytes_yes _ _ _ _ h).mono ?_; rintro e w' ⟨rfl, rfl⟩)
        go_ret
        exact ⟨rfl, Below.refl _ _⟩
    · go_enter Try.func6, Try.ntmps6
      go_wp2_with (go_at_call 13; refine (bytes_yes _ _ _ _ h).mono ?_; rintro e w' ⟨rfl, rfl⟩)
      go_ret
      exact ⟨rfl, Below.refl _ _⟩
  · go_enter Try.func6, Try.ntmps6
    go_wp2_with (go_at_call 13; refine (bytes_no _ _ _ _ h hs ht).mono ?_; rintro e w' ⟨rfl, rfl⟩)
    go_ret
    exact ⟨rfl, Below.refl _ _⟩

/-! ### THE ROW's STEP: WRITTEN OUT: LEAVE IT -/
set_option maxRecDepth 100000 in
theorem lifted (os : Os) (started : os.Started) (H : Type) (enc : TypeId × Value → H) :
    ReturnsInHanded {} Try.checked os 6 .any (Rows.fnIsDigitsSplitsOverConcatenationSpec.pre6 enc Try.prog Try.f6 Rows.fnIsDigitsSplitsOverConcatenationRow.domain false) (Rows.fnIsDigitsSplitsOverConcatenationSpec.post enc Try.prog Try.f6 false true false false) := by
  refine returnsInHanded_of_change (C := Try.checked) own started (by kernel_rfl) Try.func6
    (ChangeSpec.witness6 (enc := enc) (C := Try.checked) false ⟨#[], #[.string ByteArray.empty, .string ByteArray.empty, .int .u8 0], []⟩ 8 (by kernel_rfl) (by kernel_rfl) (by kernel_rfl) (by kernel_rfl)) ?_
  intro W base args ds gs before hval0 hW hcnd _
  have hval : ∀ (j : Nat) t v, Try.f6.params[j]? = some t → args[j]? = some v → Value.okWide Try.prog W .any base t v := hval0
  have hW' := hW
  obtain ⟨p, q, hA0, hV, rfl, hfz, hnd⟩ := hW
  have hA : DataW.TrodAll enc Try.prog W 0 (fun _ => true) true Try.f6.params.toList args.toList ds p := hA0
  rw [Try.params6] at hA hval
  obtain ⟨v0, vs0, d0, ds0, p0, q0, hargs, rfl, rfl, h0, r0⟩ := trodAll_cons hA
  obtain ⟨v1, vs1, d1, ds1, p1, q1, rfl, rfl, rfl, h1, r1⟩ := trodAll_cons r0
  obtain ⟨v2, vs2, d2, ds2, p2, q2, rfl, rfl, rfl, h2, r2⟩ := trodAll_cons r1
  obtain ⟨rfl, rfl, rfl⟩ := trodAll_nil r2
  obtain rfl : args = #[v0, v1, v2] := by cases args; simp_all
  obtain ⟨rfl, rfl⟩ := trodVars_none hV
  obtain ⟨a0, rfl, rfl, rfl, w0⟩ := open_string Try.underlying9 (hval 0 9 v0 rfl rfl) h0
  obtain ⟨a1, rfl, rfl, rfl, w1⟩ := open_string Try.underlying9 (hval 1 9 v1 rfl rfl) h1
  obtain ⟨a2, rfl, rfl, rfl, w2⟩ := open_int Try.underlying5 (hval 2 5 v2 rfl rfl) h2
  clear hA0 hval0
  simp only [List.append_nil] at hW'
  refine (walk a0 a1 a2 w0 w1 w2 W).mono fun e W' ⟨he, hg⟩ => ?_
  subst he
  exact ⟨_, rfl, _, _, _, [], [], [], hW', trodAll_mk1 (shut_bool Try.underlying4 _), (trodAll_cons_mk (shut_string Try.underlying9 w0) (trodAll_cons_mk (shut_string Try.underlying9 w1) (trodAll_cons_mk (shut_int Try.underlying5 w2) trodAll_mk0))), rfl, hg.frame _, fun h => by cases h⟩

theorem over : Rows.fnIsDigitsSplitsOverConcatenationRow.holds Try.pinned (OpenSpec.ofChange Rows.fnIsDigitsSplitsOverConcatenationSpec) :=
  OpenClaim.holds_of_wide 6 Try.f6 rfl rfl rfl rfl rfl rfl rfl ⟨rfl, rfl, rfl, rfl, rfl⟩ rfl rfl rfl rfl rfl (by kernel_rfl) Try.func6 (by kernel_rfl)
    (of_decide_eq_true (by kernel_rfl)) (by unfold Func.isWrapper; first | (rw [if_pos (by decide +kernel)]; kernel_rfl) | (rw [if_neg (by decide +kernel)]; exact ⟨rfl, rfl⟩))
    (fun os started H enc _ => lifted os started H enc)

/-- ████ THE STATEMENT ████ -/
theorem proved : Rows.FnIsDigitsSplitsOverConcatenationSaid :=
  over
end Go.Proofs.Qxb6605437a.fnIsDigitsSplitsOverConcatenation
