/-
  The contracts of 'figure.absolute' (function 19) and of its hand-out 'ZZabsolute' (function 9): an int64 n gives the uint64 |n|.
-/
import Derived.Test.Qxb6605437aRows
import Derived.WalkKit
namespace Go.Proofs.Qxb6605437a.Abs
open Go.RowKit

theorem ret_int {k : IntKind} {a b : Int} (h : a = b) : Ending.returned (.int k a) = .returned (.int k b) := by rw [h]

/-- A negative int64: the answer is its negation, as a uint64. -/
theorem abs_neg (a : Int) (h0 : a < 0) (h1 : -9223372036854775808 ≤ a) (w : World) :
    Calls Try.prog 19 #[.int .i64 a] w fun e w' => e = .returned (.int .u64 (-a)) ∧ w = w' := by
  go_enter Try.func19, Try.ntmps19
  go_wp2
  go_ret
  exact ⟨ret_int (by omega), rfl⟩

/-- Zero or above: the number itself. -/
theorem abs_pos (a : Int) (h0 : 0 ≤ a) (h1 : a ≤ 9223372036854775807) (w : World) :
    Calls Try.prog 19 #[.int .i64 a] w fun e w' => e = .returned (.int .u64 a) ∧ w = w' := by
  go_enter Try.func19, Try.ntmps19
  go_wp2
  go_ret
  exact ⟨ret_int rfl, rfl⟩

theorem zz_neg (a : Int) (h0 : a < 0) (h1 : -9223372036854775808 ≤ a) (w : World) :
    Calls Try.prog 9 #[.int .i64 a] w fun e w' => e = .returned (.int .u64 (-a)) ∧ w = w' := by
  go_enter Try.func9, Try.ntmps9
  go_wp2_with (go_at_call 19; refine (abs_neg _ h0 h1 _).mono ?_; rintro e w' ⟨rfl, rfl⟩)
  go_ret
  exact ⟨rfl, rfl⟩

theorem zz_pos (a : Int) (h0 : 0 ≤ a) (h1 : a ≤ 9223372036854775807) (w : World) :
    Calls Try.prog 9 #[.int .i64 a] w fun e w' => e = .returned (.int .u64 a) ∧ w = w' := by
  go_enter Try.func9, Try.ntmps9
  go_wp2_with (go_at_call 19; refine (abs_pos _ h0 h1 _).mono ?_; rintro e w' ⟨rfl, rfl⟩)
  go_ret
  exact ⟨rfl, rfl⟩
end Go.Proofs.Qxb6605437a.Abs
