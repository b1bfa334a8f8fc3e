/- Contracts: laws.upper9, impl.SameRunes. -/
import Derived.Test.YtalkikljjffpmaaDoorFold
import Derived.Test.YtalkikljjffpmaaDoorAsc
namespace Go.Proofs.YtalkikljjffpmaaDoor
open Go.RowKit
set_option linter.unusedVariables false
set_option linter.unusedSimpArgs false
set_option maxRecDepth 100000

/-- A code point of ASCII as a great letter. -/
def upN (x : Int) : Int := if 97 ≤ x ∧ x ≤ 122 then x - 32 else x
def up8 (c : UInt8) : UInt8 := if 97 ≤ c.toNat ∧ c.toNat ≤ 122 then c - 32 else c
def upB (s : ByteArray) : ByteArray := ⟨s.data.map up8⟩
theorem size_upB (s : ByteArray) : (upB s).size = s.size := by
  show (s.data.map up8).size = s.data.size
  simp
theorem up8_toNat (c : UInt8) : ((up8 c).toNat : Int) = upN c.toNat := by
  unfold up8 upN
  have hc := c.toNat_lt
  by_cases h : 97 ≤ c.toNat ∧ c.toNat ≤ 122
  · rw [if_pos h, if_pos (by omega)]
    rw [UInt8.toNat_sub_of_le _ _ (by rw [UInt8.le_iff_toNat_le]; show 32 ≤ c.toNat; omega)]
    show ((c.toNat - 32 : Nat) : Int) = _
    omega
  · rw [if_neg h, if_neg (by omega)]
theorem nums_upB (s : ByteArray) : nums (upB s) = (nums s).map upN := by
  simp only [nums, upB, Array.toList_map, List.map_map]
  apply List.map_congr_left
  intro c _
  exact up8_toNat c
theorem gi_upB {s : ByteArray} {k : Nat} (h : k < s.size) : gi (nums (upB s)) k = upN (gi (nums s) k) := by
  have h1 : k < (nums (upB s)).length := by rw [length_nums, size_upB]; exact h
  have h2 : k < (nums s).length := by rw [length_nums]; exact h
  rw [gi_lt h1, gi_lt h2]
  simp [nums_upB]
theorem nums_lt {s : ByteArray} (k : Nat) : 0 ≤ gi (nums s) k ∧ gi (nums s) k < 256 := by
  by_cases h : k < s.size
  · rw [gi_nums h]; have := s[k].toNat_lt; omega
  · simp [gi, List.getD, List.getElem?_eq_none (show (nums s).length ≤ k by rw [length_nums]; omega)]

/-- The bytes behind k rounds. -/
def upTo (s : ByteArray) (k : Nat) : Nat → Int := fun j => if j < k then upN (gi (nums s) j) else gi (nums s) j
theorem upTo_at (s : ByteArray) (k : Nat) : upTo s k k = gi (nums s) k := by simp [upTo]
theorem upTo_zero (s : ByteArray) : gi (nums s) = upTo s 0 := by funext j; simp [upTo]
theorem upTo_up (s : ByteArray) (k j : Nat) (x : Int) (h : upN (gi (nums s) k) = x) : (if j = k then x else upTo s k j) = upTo s (k + 1) j := by
  unfold upTo
  by_cases e : j = k
  · subst e; simp [h]
  · simp only [e, if_false]
    by_cases hlt : j < k
    · rw [if_pos hlt, if_pos (by omega)]
    · rw [if_neg hlt, if_neg (by omega)]
theorem upTo_same (s : ByteArray) (k j : Nat) (h : upN (gi (nums s) k) = gi (nums s) k) : upTo s k j = upTo s (k + 1) j := by
  rw [← upTo_up s k j _ h]
  by_cases e : j = k
  · subst e; simp [upTo]
  · simp [e]
theorem upTo_end (s : ByteArray) (j : Nat) (h : j < s.size) : upTo s s.size j = gi (nums (upB s)) j := by
  rw [gi_upB h]; simp [upTo, h]

/-- What impl.SameRunes tells. -/
def sameR (s t : ByteArray) (fold : Bool) : Bool := if fold = true then decide (foldEq (runes s) (runes t)) else decide (runes s = runes t)
theorem sameR_true (s t : ByteArray) : sameR s t true = decide (foldEq (runes s) (runes t)) := by simp [sameR]
theorem sameR_false (s t : ByteArray) : sameR s t false = decide (runes s = runes t) := by simp [sameR]

end Go.Proofs.YtalkikljjffpmaaDoor
