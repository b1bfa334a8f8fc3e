/- The first place of a byte of some kind, sign by sign (no program in sight). -/
import Derived.Test.YtleamondilmojaaDoorTextM
namespace Go.Proofs.YtleamondilmojaaDoor
open Go.RowKit
set_option linter.unusedVariables false
set_option linter.unusedSimpArgs false
set_option linter.unnecessarySimpa false
set_option maxRecDepth 100000

theorem fidx_snoc (p : UInt8 → Bool) (m : Bs) (c : UInt8) : fidx p (m ++ [c]) = if 0 ≤ fidx p m then fidx p m else if p c then (m.length : Int) else -1 := by
  have hm := List.findIdx_le_length (p := p) (xs := m)
  unfold fidx
  rw [List.findIdx_append, List.length_append]
  by_cases h : m.findIdx p < m.length
  · simp only [h, if_true, List.length_singleton]
    rw [if_pos (by omega), if_pos (by omega)]
  · simp only [h, if_false, List.length_singleton, List.findIdx_cons, List.findIdx_nil]
    cases hc : p c with
    | true => simp
    | false =>
      simp only [cond_false, Bool.false_eq_true, if_false]
      rw [if_neg (by omega), if_neg (by omega)]
theorem fidx_take_succ (p : UInt8 → Bool) {l : Bs} {k : Nat} (h : k < l.length) : fidx p (l.take (k + 1)) = if 0 ≤ fidx p (l.take k) then fidx p (l.take k) else if p l[k] then (k : Int) else -1 := by
  rw [List.take_succ_eq_append_getElem h, fidx_snoc]
  have : (l.take k).length = k := by simp; omega
  rw [this]
end Go.Proofs.YtleamondilmojaaDoor
