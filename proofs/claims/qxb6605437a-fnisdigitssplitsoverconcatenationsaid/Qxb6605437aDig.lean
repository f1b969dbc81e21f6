/-
  The contracts of 'figure.isDigits' (function 20), of its hand-out 'ZZisDigits' (function 11) and of 'countDigitBytes' (function 12).
-/
import Derived.Test.Qxb6605437aRows
import Derived.WalkKit
import Derived.Laws.IdiomStrings
import Derived.Below
namespace Go.Proofs.Qxb6605437a.Dig
open Go.RowKit

/-- Is the byte one of '0'..'9'? -/
def isDig (c : UInt8) : Bool := 48 ≤ c && c ≤ 57
/-- What isDigits answers. -/
def digs (l : List UInt8) : Bool := !l.isEmpty && l.all isDig
/-- What countDigitBytes answers. -/
def cnt (l : List UInt8) : Int := (l.filter isDig).length

theorem ret_bool {a b : Bool} (h : a = b) : Ending.returned (.bool a) = .returned (.bool b) := by rw [h]
theorem ret_int {k : IntKind} {a b : Int} (h : a = b) : Ending.returned (.int k a) = .returned (.int k b) := by rw [h]

theorem isDig_iff (c : UInt8) : isDig c = true ↔ 48 ≤ (c.toNat : Int) ∧ (c.toNat : Int) ≤ 57 := by
  unfold isDig
  simp [UInt8.le_iff_toNat_le]
  omega

theorem take_snoc (s : ByteArray) (k : Nat) (h : k < s.size) : s.data.toList.take (k + 1) = s.data.toList.take k ++ [s.data[k]'h] := by
  rw [List.take_succ_eq_append_getElem (by simpa using h)]; rfl

theorem all_snoc (s : ByteArray) (k : Nat) (h : k < s.size) (ha : (s.data.toList.take k).all isDig = true) (hd : isDig (s.data[k]'h) = true) :
    (s.data.toList.take (k + 1)).all isDig = true := by
  rw [take_snoc s k h, List.all_append, ha]; simp [hd]

theorem digs_no (s : ByteArray) (k : Nat) (h : k < s.size) (hd : ¬ isDig (s.data[k]'h) = true) : false = digs s.data.toList := by
  symm
  unfold digs
  have hm : s.data[k]'h ∈ s.data.toList := by simp
  have : s.data.toList.all isDig = false := by
    rw [Bool.eq_false_iff]; intro ha; exact hd (List.all_eq_true.1 ha _ hm)
  rw [this]; simp

theorem toList_data (s : ByteArray) : s.toList = s.data.toList := ByteArray.toList_eq s

theorem digs_yes (s : ByteArray) (h0 : s.toList.isEmpty = false) (ha : s.data.toList.all isDig = true) : true = digs s.data.toList := by
  unfold digs
  rw [← toList_data, h0, toList_data, ha]; rfl

theorem digs_empty (s : ByteArray) (h0 : s.toList.isEmpty = true) : false = digs s.data.toList := by
  unfold digs
  rw [← toList_data, h0]; rfl

set_option maxHeartbeats 400000 in
theorem isDigits_any (s : ByteArray) (w : World) (hs : s.size ≤ maxLen) :
    Calls Try.prog 20 #[.string s] w fun e w' => e = .returned (.bool (digs s.data.toList)) ∧ Below w.heap.size w w' := by
  unfold maxLen at hs
  by_cases h0 : s.toList.isEmpty = true
  · go_enter Try.func20, Try.ntmps20
    go_wp2
    go_ret
    exact ⟨ret_bool (digs_empty s h0), Below.refl _ _⟩
  · have h0' : s.toList.isEmpty = false := by simpa using h0
    have hconv := fun w : World => run_bytes_of_string (P := Try.prog) w 9 28 5 s Try.underlying9 Try.underlying28 Try.underlying5
    go_enter Try.func20, Try.ntmps20
    go_wp2
    go_loop [10] (fun i => ∃ k : Nat, k ≤ s.size ∧ i = .int .i64 k ∧ (s.data.toList.take k).all isDig = true) (fun i => s.size - (intOf i).toNat)
    case atStart => exact ⟨0, Nat.zero_le _, rfl, by simp⟩
    case round =>
      obtain ⟨k, hk, rfl, hall⟩ := hrel
      have HA : Hid ((s.data.toList.take k).all isDig = true) := hall
      clear hall hconv
      by_cases hlt : k < s.size
      · have hc : (w.alloc (Obj.cells (bytesRow s (grownCap w s.size 0 5)) 5 ((bytesRow s (grownCap w s.size 0 5)).size, (bytesRow s (grownCap w s.size 0 5)).size + 1))).cell? ⟨w.heap.size, k, none⟩ = some (.int .u8 (s.data[k]'hlt).toNat) := by
          rw [World.cell?_alloc_mark]; exact bytesRow_at s _ k hlt
        by_cases hd : isDig (s.data[k]'hlt) = true
        · have hb := (isDig_iff _).1 hd
          obtain ⟨hb1, hb2⟩ := hb
          have HD : Hid (isDig (s.data[k]'hlt) = true) := hd
          clear hd
          go_wp2
          go_round
          case rel => exact ⟨k + 1, by omega, by go_num, all_snoc s k hlt HA.out HD.out⟩
          case measure => simp [intOf]; omega
        · have hb : ¬ (48 ≤ ((s.data[k]'hlt).toNat : Int) ∧ ((s.data[k]'hlt).toNat : Int) ≤ 57) := fun h => hd ((isDig_iff _).2 h)
          have HD : Hid (¬ isDig (s.data[k]'hlt) = true) := hd
          clear hd
          by_cases hb1 : 48 ≤ ((s.data[k]'hlt).toNat : Int)
          all_goals
            go_wp2
            go_ret
            exact ⟨ret_bool (digs_no s k hlt HD.out), ((Below.refl _ _).alloc (Nat.le_refl _) _).drew⟩
      · go_wp2
        go_ret
        refine ⟨ret_bool (digs_yes s h0' ?_), ((Below.refl _ _).alloc (Nat.le_refl _) _).drew⟩
        have := HA.out
        rwa [List.take_of_length_le (by simp; omega)] at this

theorem zz_any (s : ByteArray) (w : World) (hs : s.size ≤ maxLen) :
    Calls Try.prog 11 #[.string s] w fun e w' => e = .returned (.bool (digs s.data.toList)) ∧ Below w.heap.size w w' := by
  go_enter Try.func11, Try.ntmps11
  go_wp2_with (go_at_call 20; refine (isDigits_any _ _ hs).mono ?_; rintro e w' ⟨rfl, hb⟩)
  go_ret
  exact ⟨rfl, hb⟩

theorem cnt_le (l : List UInt8) : 0 ≤ cnt l ∧ cnt l ≤ l.length := by
  unfold cnt; exact ⟨by omega, by have := List.length_filter_le isDig l; omega⟩

theorem cnt_snoc (l : List UInt8) (c : UInt8) : cnt (l ++ [c]) = cnt l + if 48 ≤ (c.toNat : Int) ∧ (c.toNat : Int) ≤ 57 then 1 else 0 := by
  unfold cnt
  rw [List.filter_append]
  by_cases h : isDig c = true
  · rw [if_pos ((isDig_iff c).1 h)]; simp [h]
  · rw [if_neg (fun hh => h ((isDig_iff c).2 hh))]; simp [h]

set_option maxHeartbeats 400000 in
theorem count_any (s : ByteArray) (w : World) (hs : s.size ≤ maxLen) :
    Calls Try.prog 12 #[.string s] w fun e w' => e = .returned (.int .i64 (cnt s.data.toList)) ∧ w = w' := by
  unfold maxLen at hs
  go_enter Try.func12, Try.ntmps12
  go_wp2
  go_loop [3, 4] (fun n i => ∃ k : Nat, k ≤ s.size ∧ i = .int .i64 k ∧ n = .int .i64 (cnt (s.data.toList.take k))) (fun _ i => s.size - (intOf i).toNat)
  case atStart => exact ⟨0, Nat.zero_le _, rfl, rfl⟩
  case round =>
    obtain ⟨k, hk, rfl, rfl⟩ := hrel
    have hd := cnt_le (s.data.toList.take k)
    have hl : (s.data.toList.take k).length ≤ k := List.length_take_le _ _
    by_cases hlt : k < s.size
    · have hsn := cnt_snoc (s.data.toList.take k) s[k]
      have hts := take_snoc s k hlt
      have HS : Hid (cnt (s.data.toList.take (k + 1)) = cnt (s.data.toList.take k) + if 48 ≤ (s[k].toNat : Int) ∧ (s[k].toNat : Int) ≤ 57 then 1 else 0) := by rw [hts]; exact hsn
      clear hsn hts
      go_wp2
      all_goals
        go_round
        case rel => exact ⟨k + 1, by omega, by go_num, by rw [HS.out]; first | rw [if_pos ⟨‹_›, ‹_›⟩] | (rw [if_neg (by omega)]; go_num)⟩
        case measure => simp [intOf]; omega
    · go_wp2
      go_ret
      exact ⟨ret_int (by rw [List.take_of_length_le (by simp; omega)]), rfl⟩

/-- THE PLAIN LAW: every byte is a digit exactly when the digits are as many as the bytes. -/
theorem all_iff_cnt (l : List UInt8) : (l.all isDig = true) ↔ cnt l = l.length := by
  unfold cnt
  constructor
  · intro h
    rw [List.filter_eq_self.2 (by simpa [List.all_eq_true] using h)]
  · intro h
    have h1 : (l.filter isDig).length = l.length := by omega
    rw [List.length_filter_eq_length_iff] at h1
    simpa [List.all_eq_true] using h1
end Go.Proofs.Qxb6605437a.Dig
