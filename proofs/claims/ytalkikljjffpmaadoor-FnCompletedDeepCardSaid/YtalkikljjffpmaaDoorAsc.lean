/- Contract: laws.ascii9. -/
import Derived.Test.YtalkikljjffpmaaDoorProg
import Derived.Test.YtalkikljjffpmaaDoorBase
namespace Go.Proofs.YtalkikljjffpmaaDoor
open Go.RowKit
set_option linter.unusedVariables false
set_option linter.unusedSimpArgs false
set_option maxRecDepth 100000

/-- What laws.ascii9 tells. -/
def asc9 (s : ByteArray) : Bool := decide (asc s ∧ s.size ≤ 300)
theorem asc9_no {s : ByteArray} (k : Nat) (h : k < s.size) (hc : 128 ≤ s[k].toNat) : asc9 s = false := decide_eq_false (fun hh => by have := hh.1 k h; omega)
theorem asc9_yes {s : ByteArray} (h : asc s) : asc9 s = decide (s.size ≤ 300) := by unfold asc9; simp [h]
theorem asc9_iff {s : ByteArray} : asc9 s = true ↔ asc s ∧ s.size ≤ 300 := by unfold asc9; simp

end Go.Proofs.YtalkikljjffpmaaDoor
