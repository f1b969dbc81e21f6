/-
  THE SHARED WALKS, MORE: a slice of words that came in, copied; the contracts in the forms that the laws use.
-/
import Derived.Test.Qxb6605532aWalk
import Derived.ProofKit
import Derived.OpenShut
namespace Go.Proofs.Qxb6605532a.Walk
open Go.ChangeShapes Go.WideShapes Go.ChangeAt Go.RowKit
open Go.Proofs.Qxb6605532a.Mem Go.Proofs.Qxb6605532a.Plain

/-- What a clone leaves. -/
def Cloned (n : Nat) (F : Nat → Int) (w : World) (e : Ending) (w' : World) : Prop :=
  ∃ b, e = .returned (.slice (some ⟨b, 0, none⟩) n n) ∧ Words w' b n F ∧ Below w.heap.size w w' ∧ w.heap.size ≤ b

theorem clone_own' (b n : Nat) (F : Nat → Int) (w : World) (hn : n ≤ 4096) (hw : Words w b n F) : Calls Try.prog 8 #[.slice (some ⟨b, 0, none⟩) n n] w (Cloned n F w) :=
  (clone_own b n F w hn hw).mono fun _ _ h => ⟨_, h.1, h.2.1, h.2.2.1, Nat.le_refl _⟩

theorem same_yes' (b c n : Nat) (F G : Nat → Int) (w : World) (hn : n ≤ 4096) (hb : Words w b n F) (hc : Words w c n G) (he : ∀ i, i < n → F i = G i) :
    Calls Try.prog 11 #[.slice (some ⟨b, 0, none⟩) n n, .slice (some ⟨c, 0, none⟩) n n] w fun e w' => e = .returned (.bool true) ∧ Below w.heap.size w w' :=
  (same_yes b c n F G w hn hb hc he).mono fun _ _ h => ⟨h.1, h.2.1.os, h.2.1.tape, h.2.1.output, Nat.le_of_eq h.2.1.size.symm, fun k _ => h.2.2 k⟩

theorem next {B : Nat} {w a b : World} (h : Below B w a) (hB : B ≤ a.heap.size) (k : Below a.heap.size a b) : Below B w b := h.trans (k.mono hB)

/-- The inverse undoes the sum, the sum the inverse (below 4096). -/
theorem back (inv : Bool) (F : Nat → Int) (s : Nat) (hs : s < 4096) : op (cf (!inv)) 12 (op (cf inv) 12 F) s = F s := by
  have hs' : s < 2 ^ 12 := hs
  have e : cf (!inv) = -(cf inv) := by cases inv <;> rfl
  rw [e, op_eq_T _ 12 _ s hs', T_congr _ 12 _ (T (cf inv) 12 F) s hs' (fun t ht => op_eq_T _ 12 F t ht)]
  exact T_back _ 12 F s hs'

/-- A slice that came in, copied. -/
theorem clone_arg (x : Addr) (n cap : Nat) (zs : List Int) (w : World) (hn : n ≤ 4096) (hz : n ≤ zs.length) (hcell : ∀ i, i < zs.length → w.cell? (x.add i) = some (.int .u64 (zs.getD i 0)))
    (hwf : ∀ z ∈ zs, (Lit.int .u64 z).wf = true) : Calls Try.prog 8 #[.slice (some x) n cap] w (Cloned n (fun i => zs.getD i 0) w) := by
  by_cases h0 : n = 0
  · subst h0
    exact (clone_empty x cap _ w).mono fun _ _ h => ⟨_, h.1, h.2.1, h.2.2.1, Nat.le_refl _⟩
  · obtain ⟨b, off, spot⟩ := x
    have hspot : spot = none := by simpa [Addr.add] using World.cell?_spot (hcell 0 (by omega))
    subst hspot
    have hb : b < w.heap.size := by
      have h := hcell 0 (by omega)
      rcases Nat.lt_or_ge b w.heap.size with hb | hb
      · exact hb
      · rw [World.cell?, show (Addr.add ⟨b, off, none⟩ 0).block = b from rfl, Array.getElem?_eq_none hb] at h
        cases h
    refine (clone_any b off n cap (fun i => zs.getD i 0) w hn (fun i hi => ?_) hb).mono fun _ _ h => ⟨_, h.1, h.2.1, h.2.2.1, Nat.le_refl _⟩
    have hin : zs.getD i 0 ∈ zs := by
      rw [List.getD_eq_getElem?_getD, List.getElem?_eq_getElem (by omega)]; simp
    have hbd := bounds_u64 (hwf _ hin)
    have := hcell i (by omega)
    rw [show Addr.add ⟨b, off, none⟩ i = ⟨b, off + i, none⟩ from by simp [Addr.add]] at this
    rw [uw_in hbd.1 hbd.2]
    exact this
end Go.Proofs.Qxb6605532a.Walk
