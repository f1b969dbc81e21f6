/-
  SLICES OF BOOLS THAT CAME IN: what the walk is told of one; how it is opened; how it is copied. Tests on lengths.
-/
import Derived.Test.Qxb6605532aQuo2
import Derived.ProofKit
import Derived.OpenShut
import Derived.ChangeOld
import Derived.Deep.Grids
namespace Go.Proofs.Qxb6605532a.Quo
open Go.ChangeShapes Go.WideShapes Go.ChangeAt Go.RowKit
open Go.Proofs.Qxb6605532a.Mem Go.Proofs.Qxb6605532a.Walk

/-- A slice of bools that came in: nil; or it leads to a row of 'cap' cells, the bools 'B'. -/
def IsRowB (w : World) (a : Option Addr) (len cap : Nat) (B : Nat → Bool) : Prop :=
  (a = none ∧ len = 0 ∧ cap = 0) ∨ ∃ x, a = some x ∧ len ≤ cap ∧ cap ≤ maxLen ∧ ∀ i, i < cap → w.cell? (x.add i) = some (.bool (B i))

theorem isRowB_len {w : World} {a : Option Addr} {len cap : Nat} {B : Nat → Bool} (h : IsRowB w a len cap B) : len ≤ maxLen := by
  rcases h with ⟨_, rfl, _⟩ | ⟨x, _, h1, h2, _⟩
  · exact Nat.zero_le _
  · omega

/-- One that is not empty lies at a plain address, below the heap's end. -/
theorem isRowB_at {w : World} {a : Option Addr} {len cap : Nat} {B : Nat → Bool} (h : IsRowB w a len cap B) (h1 : 1 ≤ len) :
    ∃ b off, a = some ⟨b, off, none⟩ ∧ b < w.heap.size ∧ ∀ i, i < len → w.cell? ⟨b, off + i, none⟩ = some (.bool (B i)) := by
  rcases h with ⟨_, rfl, _⟩ | ⟨x, rfl, hl, _, hc⟩
  · omega
  · obtain ⟨b, off, spot⟩ := x
    have hspot : spot = none := by simpa [Addr.add] using World.cell?_spot (hc 0 (by omega))
    subst hspot
    have hb : b < w.heap.size := by
      have h := hc 0 (by omega)
      rcases Nat.lt_or_ge b w.heap.size with hb | hb
      · exact hb
      · rw [World.cell?, show (Addr.add ⟨b, off, none⟩ 0).block = b from rfl, Array.getElem?_eq_none hb] at h
        cases h
    refine ⟨b, off, rfl, hb, fun i hi => ?_⟩
    have := hc i (by omega)
    rwa [show Addr.add ⟨b, off, none⟩ i = ⟨b, off + i, none⟩ from by simp [Addr.add]] at this

/-- The copy, made in a later world. -/
theorem cloneB_arg {w w' : World} {b off n cap : Nat} {f : Nat → Bool} (hn : n ≤ 4096) (hb : b < w.heap.size) (hc : ∀ i, i < n → w.cell? ⟨b, off + i, none⟩ = some (.bool (f i))) (D : Below w.heap.size w w') :
    Calls Try.prog 14 #[.slice (some ⟨b, off, none⟩) n cap] w' fun e w'' => ∃ c, e = .returned (.slice (some ⟨c, 0, none⟩) n n) ∧ Bools w'' c n f ∧ Below w'.heap.size w' w'' :=
  cloneB_any b off n cap f w' hn (fun i hi => by rw [D.cell (p := ⟨b, off + i, none⟩) hb]; exact hc i hi) (Nat.lt_of_lt_of_le hb D.size)

/-! ### 'n & (n-1) != 0' -/
theorem pow_no {n : Nat} (hn : n ≤ 4096) (h1 : 1 ≤ n) (h : ¬ n &&& (n - 1) = 0) : (bits .and .i64 (n : Int) ((n : Int) - 1) != 0) = true := by
  have e : (n : Int) - 1 = ((n - 1 : Nat) : Int) := by omega
  rw [e, i64_and n (n - 1) (by omega) (by omega)]
  have h3 : ¬ ((n &&& (n - 1) : Nat) : Int) = 0 := fun e => h (by omega)
  simpa using h3
theorem pow_yes {n : Nat} (hn : n ≤ 4096) (h1 : 1 ≤ n) (h : n &&& (n - 1) = 0) : (bits .and .i64 (n : Int) ((n : Int) - 1) != 0) = false := by
  have e : (n : Int) - 1 = ((n - 1 : Nat) : Int) := by omega
  rw [e, i64_and n (n - 1) (by omega) (by omega), h]
  rfl
theorem pow_zero' : bits .and .i64 0 (-1) = 0 := by decide
theorem pow_of {n : Nat} (hn : n ≤ 4096) (h1 : 1 ≤ n) (h : n &&& (n - 1) = 0) : ∃ K, n = 2 ^ K ∧ K ≤ 12 := by
  obtain ⟨K, hK⟩ := Plain.pow_of_and n n (Nat.le_refl _) h1 h
  refine ⟨K, hK, ?_⟩
  have h2 : 2 ^ K ≤ 2 ^ 12 := by rw [← hK]; omega
  exact (Nat.pow_le_pow_iff_right (a := 2) (by omega)).1 h2

/-! ### Opening an argument -/
theorem open_arg {H : Type} {enc : TypeId × Value → H} {W : World} {a0 : Option Addr} {len cap : Nat} {d : DataW H} {p : List MemPlace}
    (h : DataW.Trod enc Try.prog W 0 (fun _ => true) true 30 (.slice a0 len cap) d p) : ∃ B, IsRowB W a0 len cap B := by
  obtain ⟨fuel, hf⟩ := h
  rcases Deep.open_bools Try.underlying30 Try.underlying4 (by kernel_rfl) hf with ⟨hcs, _⟩ | ⟨x, l, c, B, hcs, _, hl, hm, _, hcell⟩
  · simp [Value.cells] at hcs
    obtain ⟨rfl, rfl, rfl⟩ := hcs
    exact ⟨fun _ => false, .inl ⟨rfl, rfl, rfl⟩⟩
  · simp [Value.cells] at hcs
    obtain ⟨rfl, rfl, rfl⟩ := hcs
    exact ⟨B, .inr ⟨_, rfl, hl, hm, hcell⟩⟩

end Go.Proofs.Qxb6605532a.Quo
