/-
  MEMORY: rows of words (type 29: uint64) and of bools (type 4) that fill a block of their own; what one store does to them; bits of int64.
-/
import Derived.Test.Qxb6605532aRows
import Derived.WalkKit
import Derived.Below
namespace Go.Proofs.Qxb6605532a.Mem
open Go.RowKit

theorem ret_int {k : IntKind} {a b : Int} (h : a = b) : Ending.returned (.int k a) = .returned (.int k b) := by rw [h]
theorem ret_bool {a b : Bool} (h : a = b) : Ending.returned (.bool a) = .returned (.bool b) := by rw [h]

/-! ### Wrapping -/
/-- The uint64 of an exact integer (kept shut: the walk must not look inside). -/
def uw (x : Int) : Int := IntKind.u64.wrap x
theorem uw_eq (x : Int) : uw x = x % 18446744073709551616 := by unfold uw; rw [IntKind.wrap_u64]
theorem uw_add (x y : Int) : IntKind.u64.wrap (uw x + uw y) = uw (x + y) := by
  simp only [uw, IntKind.wrap_u64]; omega
theorem uw_sub (x y : Int) : IntKind.u64.wrap (uw x - uw y) = uw (x - y) := by
  simp only [uw, IntKind.wrap_u64]; omega
theorem uw_mul (x y : Int) : IntKind.u64.wrap (uw x * uw y) = uw (x * y) := by
  simp only [uw, IntKind.wrap_u64]; rw [← Int.mul_emod]
theorem uw_bd (x : Int) : 0 ≤ uw x ∧ uw x ≤ 18446744073709551615 := by rw [uw_eq]; omega
theorem uw_in {x : Int} (h0 : 0 ≤ x) (h1 : x ≤ 18446744073709551615) : uw x = x := by rw [uw_eq]; omega

/-! ### Rows -/
def row (n : Nat) (F : Nat → Int) : Array Value := ((List.range n).map fun i => Value.int .u64 (uw (F i))).toArray
def rowB (n : Nat) (f : Nat → Bool) : Array Value := ((List.range n).map fun i => Value.bool (f i)).toArray

/-- Block b is a row of n words, the i-th the uint64 of F i. -/
def Words (w : World) (b n : Nat) (F : Nat → Int) : Prop := w.heap[b]? = some (.cells (row n F) 29 (0, 0))
/-- Block b is a row of n bools. -/
def Bools (w : World) (b n : Nat) (f : Nat → Bool) : Prop := w.heap[b]? = some (.cells (rowB n f) 4 (0, 0))

theorem row_at (n : Nat) (F : Nat → Int) (i : Nat) (h : i < n) : (row n F)[i]? = some (.int .u64 (uw (F i))) := by
  simp [row, h]
theorem rowB_at (n : Nat) (f : Nat → Bool) (i : Nat) (h : i < n) : (rowB n f)[i]? = some (.bool (f i)) := by
  simp [rowB, h]

theorem row_get (n : Nat) (F : Nat → Int) (j : Nat) : (row n F)[j]? = if j < n then some (.int .u64 (uw (F j))) else none := by
  by_cases h : j < n <;> simp [row, h]
theorem rowB_get (n : Nat) (f : Nat → Bool) (j : Nat) : (rowB n f)[j]? = if j < n then some (.bool (f j)) else none := by
  by_cases h : j < n <;> simp [rowB, h]
theorem row_size (n : Nat) (F : Nat → Int) : (row n F).size = n := by simp [row]
theorem rowB_size (n : Nat) (f : Nat → Bool) : (rowB n f).size = n := by simp [rowB]

theorem row_set (n : Nat) (F : Nat → Int) (i : Nat) (x : Int) : (row n F).setIfInBounds i (.int .u64 (uw x)) = row n (fun j => if j = i then x else F j) := by
  apply Array.ext_getElem?
  intro j
  rw [Array.getElem?_setIfInBounds, row_get, row_get, row_size]
  by_cases e : i = j
  · subst e; by_cases h : i < n <;> simp [h]
  · have e' : ¬ j = i := fun h => e h.symm
    simp [e, e']
theorem rowB_set (n : Nat) (f : Nat → Bool) (i : Nat) (x : Bool) : (rowB n f).setIfInBounds i (.bool x) = rowB n (fun j => if j = i then x else f j) := by
  apply Array.ext_getElem?
  intro j
  rw [Array.getElem?_setIfInBounds, rowB_get, rowB_get, rowB_size]
  by_cases e : i = j
  · subst e; by_cases h : i < n <;> simp [h]
  · have e' : ¬ j = i := fun h => e h.symm
    simp [e, e']

theorem row_congr {n : Nat} {F G : Nat → Int} (h : ∀ i, i < n → uw (F i) = uw (G i)) : row n F = row n G := by
  unfold row; congr 1; apply List.map_congr_left; intro i hi; rw [h i (by simpa using hi)]
theorem rowB_congr {n : Nat} {f g : Nat → Bool} (h : ∀ i, i < n → f i = g i) : rowB n f = rowB n g := by
  unfold rowB; congr 1; apply List.map_congr_left; intro i hi; rw [h i (by simpa using hi)]

theorem Words.congr {w : World} {b n : Nat} {F G : Nat → Int} (h : Words w b n F) (e : ∀ i, i < n → F i = G i) : Words w b n G := by
  unfold Words at *; rw [h, row_congr (fun i hi => by rw [e i hi])]
theorem Bools.congr {w : World} {b n : Nat} {f g : Nat → Bool} (h : Bools w b n f) (e : ∀ i, i < n → f i = g i) : Bools w b n g := by
  unfold Bools at *; rw [h, rowB_congr e]

theorem Words.cell {w : World} {b n : Nat} {F : Nat → Int} (h : Words w b n F) {i : Nat} (hi : i < n) : w.cell? ⟨b, i, none⟩ = some (.int .u64 (uw (F i))) := by
  unfold Words at h
  simp only [World.cell?, h]
  exact row_at n F i hi
theorem Bools.cell {w : World} {b n : Nat} {f : Nat → Bool} (h : Bools w b n f) {i : Nat} (hi : i < n) : w.cell? ⟨b, i, none⟩ = some (.bool (f i)) := by
  unfold Bools at h
  simp only [World.cell?, h]
  exact rowB_at n f i hi
theorem Words.free {w : World} {b n : Nat} {F : Nat → Int} (h : Words w b n F) (i : Nat) : w.frozen? ⟨b, i, none⟩ = false := by
  unfold Words at h
  simp [World.frozen?, h]
theorem Bools.free {w : World} {b n : Nat} {f : Nat → Bool} (h : Bools w b n f) (i : Nat) : w.frozen? ⟨b, i, none⟩ = false := by
  unfold Bools at h
  simp [World.frozen?, h]

theorem heap_set (w : World) (b i : Nat) (v : Value) (C : Array Value) (t : TypeId) (fr : Nat × Nat) (h : w.heap[b]? = some (.cells C t fr)) :
    (w.setCell ⟨b, i, none⟩ v).heap[b]? = some (.cells (C.setIfInBounds i v) t fr) := by
  simp [World.setCell, Array.getElem?_modify, h]

theorem Words.set {w : World} {b n : Nat} {F : Nat → Int} (h : Words w b n F) (i : Nat) (x : Int) :
    Words (w.setCell ⟨b, i, none⟩ (.int .u64 (uw x))) b n (fun j => if j = i then x else F j) := by
  unfold Words at *
  rw [heap_set w b i _ _ _ _ h, row_set]
theorem Bools.set {w : World} {b n : Nat} {f : Nat → Bool} (h : Bools w b n f) (i : Nat) (x : Bool) :
    Bools (w.setCell ⟨b, i, none⟩ (.bool x)) b n (fun j => if j = i then x else f j) := by
  unfold Bools at *
  rw [heap_set w b i _ _ _ _ h, rowB_set]

/-! ### A world of which one block alone has turned -/
structure Upd (b : Nat) (w w' : World) : Prop where
  os : w'.os = w.os
  tape : w'.tape = w.tape
  output : w'.output = w.output
  size : w'.heap.size = w.heap.size
  block : ∀ k, k ≠ b → w'.heap[k]? = w.heap[k]?

theorem Upd.refl (b : Nat) (w : World) : Upd b w w := ⟨rfl, rfl, rfl, rfl, fun _ _ => rfl⟩
theorem Upd.trans {b : Nat} {u v w : World} (h : Upd b u v) (k : Upd b v w) : Upd b u w :=
  ⟨k.os.trans h.os, k.tape.trans h.tape, k.output.trans h.output, k.size.trans h.size, fun i hi => (k.block i hi).trans (h.block i hi)⟩
theorem Upd.drew {b : Nat} {u v : World} (h : Upd b u v) : Upd b u v.drew := ⟨h.os, h.tape, h.output, h.size, h.block⟩
theorem Upd.setCell {b : Nat} {u v : World} (h : Upd b u v) (i : Nat) (x : Value) : Upd b u (v.setCell ⟨b, i, none⟩ x) :=
  h.trans ⟨rfl, rfl, rfl, by simp [World.setCell], fun k hk => Below.heap_setCell _ _ _ _ hk⟩
theorem Upd.below {b : Nat} {u v : World} (h : Upd b u v) {B : Nat} (hB : B ≤ b) : Below B u v :=
  ⟨h.os, h.tape, h.output, by have := h.size; omega, fun k hk => h.block k (by omega)⟩
theorem Upd.words {b : Nat} {u v : World} (h : Upd b u v) {c n : Nat} {F : Nat → Int} (hc : c ≠ b) (k : Words u c n F) : Words v c n F := by
  unfold Words at *; rw [h.block c hc]; exact k
theorem Upd.bools {b : Nat} {u v : World} (h : Upd b u v) {c n : Nat} {f : Nat → Bool} (hc : c ≠ b) (k : Bools u c n f) : Bools v c n f := by
  unfold Bools at *; rw [h.block c hc]; exact k
theorem below_words {B : Nat} {u v : World} (h : Below B u v) {c n : Nat} {F : Nat → Int} (hc : c < B) (k : Words u c n F) : Words v c n F := by
  unfold Words at *; rw [h.block c hc]; exact k
theorem below_bools {B : Nat} {u v : World} (h : Below B u v) {c n : Nat} {f : Nat → Bool} (hc : c < B) (k : Bools u c n f) : Bools v c n f := by
  unfold Bools at *; rw [h.block c hc]; exact k
theorem Words.lt {w : World} {b n : Nat} {F : Nat → Int} (h : Words w b n F) : b < w.heap.size := by
  unfold Words at h
  exact (Array.getElem?_eq_some_iff.1 h).1
theorem Bools.lt {w : World} {b n : Nat} {f : Nat → Bool} (h : Bools w b n f) : b < w.heap.size := by
  unfold Bools at h
  exact (Array.getElem?_eq_some_iff.1 h).1
theorem Words.drew {w : World} {b n : Nat} {F : Nat → Int} (h : Words w b n F) : Words w.drew b n F := h
theorem Bools.drew {w : World} {b n : Nat} {f : Nat → Bool} (h : Bools w b n f) : Bools w.drew b n f := h

/-! ### A row that 'make' lays -/
theorem made_words (n : Nat) : madeCells (Value.int .u64 0).cells (n * 1) = row n (fun _ => 0) := by
  have hc : (Value.int .u64 0).cells = #[.int .u64 0] := rfl
  rw [hc]
  apply Array.ext
  · simp [madeCells, row]
  · intro i h1 h2
    simp [madeCells, row, uw, IntKind.wrap_u64, Nat.mod_one]
theorem made_bools (n : Nat) : madeCells (Value.bool false).cells (n * 1) = rowB n (fun _ => false) := by
  have hc : (Value.bool false).cells = #[.bool false] := rfl
  rw [hc]
  apply Array.ext
  · simp [madeCells, rowB]
  · intro i h1 h2
    simp [madeCells, rowB, Nat.mod_one]

/-! ### Bits of int64, of numbers that are not negative -/
def diff (a b : Nat) : Nat := a ^^^ (a &&& b)

theorem i64_of_nat (r : BitVec 64) (h : r.toNat < 9223372036854775808) : IntKind.i64.wrap (r.toNat : Int) = (r.toNat : Int) := by
  simp [IntKind.wrap, IntKind.bits, IntKind.signed]
  omega

theorem i64_and (a b : Nat) (ha : a < 9223372036854775808) (hb : b < 9223372036854775808) : bits .and .i64 (a : Int) (b : Int) = ((a &&& b : Nat) : Int) := by
  have e : (BitVec.ofInt 64 (a : Int) &&& BitVec.ofInt 64 (b : Int)).toNat = a &&& b := by
    rw [BitVec.ofInt_natCast, BitVec.ofInt_natCast, BitVec.toNat_and, BitVec.toNat_ofNat, BitVec.toNat_ofNat, Nat.mod_eq_of_lt (by omega), Nat.mod_eq_of_lt (by omega)]
  show IntKind.i64.wrap ((BitVec.ofInt 64 (a : Int) &&& BitVec.ofInt 64 (b : Int)).toNat : Int) = _
  have hl : a &&& b ≤ a := Nat.and_le_left
  rw [i64_of_nat _ (by omega), e]

theorem i64_xor (a b : Nat) (ha : a < 9223372036854775808) (hb : b < 9223372036854775808) : bits .xor .i64 (a : Int) (b : Int) = ((a ^^^ b : Nat) : Int) := by
  have e : (BitVec.ofInt 64 (a : Int) ^^^ BitVec.ofInt 64 (b : Int)).toNat = a ^^^ b := by
    rw [BitVec.ofInt_natCast, BitVec.ofInt_natCast, BitVec.toNat_xor, BitVec.toNat_ofNat, BitVec.toNat_ofNat, Nat.mod_eq_of_lt (by omega), Nat.mod_eq_of_lt (by omega)]
  show IntKind.i64.wrap ((BitVec.ofInt 64 (a : Int) ^^^ BitVec.ofInt 64 (b : Int)).toNat : Int) = _
  have hl : a ^^^ b < 2 ^ 63 := Nat.xor_lt_two_pow (by omega) (by omega)
  rw [i64_of_nat _ (by omega), e]

theorem i64_or (a b : Nat) (ha : a < 9223372036854775808) (hb : b < 9223372036854775808) : bits .or .i64 (a : Int) (b : Int) = ((a ||| b : Nat) : Int) := by
  have e : (BitVec.ofInt 64 (a : Int) ||| BitVec.ofInt 64 (b : Int)).toNat = a ||| b := by
    rw [BitVec.ofInt_natCast, BitVec.ofInt_natCast, BitVec.toNat_or, BitVec.toNat_ofNat, BitVec.toNat_ofNat, Nat.mod_eq_of_lt (by omega), Nat.mod_eq_of_lt (by omega)]
  show IntKind.i64.wrap ((BitVec.ofInt 64 (a : Int) ||| BitVec.ofInt 64 (b : Int)).toNat : Int) = _
  have hl : a ||| b < 2 ^ 63 := Nat.or_lt_two_pow (by omega) (by omega)
  rw [i64_of_nat _ (by omega), e]

theorem diff_le (a b : Nat) : diff a b ≤ a := by
  apply Nat.le_of_testBit
  intro i hi
  unfold diff at hi
  rw [Nat.testBit_xor, Nat.testBit_and] at hi
  cases h : a.testBit i <;> simp_all

theorem i64_andNot (a b : Nat) (ha : a < 9223372036854775808) (hb : b < 9223372036854775808) : bits .andNot .i64 (a : Int) (b : Int) = ((diff a b : Nat) : Int) := by
  have e : (BitVec.ofInt 64 (a : Int) &&& ~~~BitVec.ofInt 64 (b : Int)).toNat = diff a b := by
    have hv : BitVec.ofInt 64 (a : Int) &&& ~~~BitVec.ofInt 64 (b : Int) = BitVec.ofInt 64 (a : Int) ^^^ (BitVec.ofInt 64 (a : Int) &&& BitVec.ofInt 64 (b : Int)) := by
      ext i hi
      simp only [BitVec.getElem_and, BitVec.getElem_not, BitVec.getElem_xor]
      cases (BitVec.ofInt 64 (a : Int))[i] <;> cases (BitVec.ofInt 64 (b : Int))[i] <;> rfl
    rw [hv, BitVec.ofInt_natCast, BitVec.ofInt_natCast, BitVec.toNat_xor, BitVec.toNat_and, BitVec.toNat_ofNat, BitVec.toNat_ofNat, Nat.mod_eq_of_lt (by omega), Nat.mod_eq_of_lt (by omega)]
    rfl
  show IntKind.i64.wrap ((BitVec.ofInt 64 (a : Int) &&& ~~~BitVec.ofInt 64 (b : Int)).toNat : Int) = _
  have hl := diff_le a b
  rw [i64_of_nat _ (by omega), e]

end Go.Proofs.Qxb6605532a.Mem
