/- FnSplitLine: the walk (the statement is told in the row). -/
import Derived.Test.YtalkikljjffpmaaDoorParts
import Derived.Test.YtalkikljjffpmaaDoorSame
namespace Go.Proofs.YtalkikljjffpmaaDoor
open Go.RowKit
set_option linter.unusedVariables false
set_option linter.unusedSimpArgs false
set_option maxRecDepth 100000

theorem part_take {s : ByteArray} {n : Nat} (hn : n ≤ s.size) {p : Nat × Nat} (h : p.2 ≤ n) : partB (s.extract 0 n) p = partB s p := by
  unfold partB
  rw [ByteArray.extract_extract]
  congr 1 <;> omega
theorem nums_take {s : ByteArray} {n k : Nat} (hn : n ≤ s.size) (h : k < n) : gi (nums (s.extract 0 n)) k = gi (nums s) k := by
  have e : s.extract 0 n = partB s (0, n) := rfl
  rw [e, nums_partB, gi_part (by simpa using h)]
  simp
theorem cuts_take (s : ByteArray) (n : Nat) (hn : n ≤ s.size) : ∀ k, k ≤ n → cutsTo (nums (s.extract 0 n)) k = cutsTo (nums s) k
  | 0, _ => rfl
  | k + 1, h => by
    have ih := cuts_take s n hn k (by omega)
    simp only [cutsTo, ih, nums_take hn (show k < n by omega)]
theorem parts_take (s : ByteArray) (n : Nat) (hn : n ≤ s.size) : (cuts (nums (s.extract 0 n)) (s.extract 0 n).size).map (partB (s.extract 0 n)) = (cuts (nums s) n).map (partB s) := by
  have hsz : (s.extract 0 n).size = n := by rw [ByteArray.size_extract]; omega
  rw [hsz]
  have e : cuts (nums (s.extract 0 n)) n = cuts (nums s) n := by unfold cuts; rw [cuts_take s n hn n (Nat.le_refl _)]
  rw [e]
  apply List.map_congr_left
  intro p hp
  exact part_take hn (cuts_in hp).2
theorem last_part (s : ByteArray) (n : Nat) (h : n ≤ s.size) : (gs ((cuts (nums s) n).map (partB s)) ((cuts (nums s) n).length - 1)).size = n - (cutsTo (nums s) n).2 := by
  have e : gs ((cuts (nums s) n).map (partB s)) ((cuts (nums s) n).length - 1) = partB s ((cutsTo (nums s) n).2, n) := by
    unfold cuts gs; simp [List.getD]
  rw [e, size_partB (by simpa using h) (cutsTo_le _ _)]

end Go.Proofs.YtalkikljjffpmaaDoor
