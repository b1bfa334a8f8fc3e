/- laws.key9, laws.one9. -/
import Derived.Test.YtlfmmmbafkelhaaDoorEditor
import Derived.Test.YtlfmmmbafkelhaaDoorOnce
import Derived.Test.YtlfmmmbafkelhaaDoorWholeS
namespace Go.Proofs.YtlfmmmbafkelhaaDoor
open Go.RowKit
set_option linter.unusedVariables false
set_option linter.unusedSimpArgs false
set_option maxRecDepth 100000

theorem whole_empty (w : World) : Calls Tryd.prog 54 #[.string { data := #[] }] w fun e w' => e = .returned (.bool true) ∧ Old w w' := by
  go_enter Tryd.func54, Tryd.ntmps54
  go_wp2
  go_loopw [3, 4] (fun _ _ wr => ∃ pos : Nat, wr = w.iter { data := #[] } pos) (fun _ _ wr => 0)
  case atStart => exact ⟨0, rfl⟩
  case round =>
    obtain ⟨pos, rfl⟩ := hrel
    have hlt : ¬ pos < ({ data := #[] } : ByteArray).size := Nat.not_lt_zero pos
    have hn := run_next_end (P := Tryd.prog) w { data := #[] } pos 0 hlt
    go_wp2
    all_goals (go_ret; exact ⟨rfl, Old.alloc _ _⟩)

theorem right_any (op : Int) (w : World) (h1 : 1 ≤ op) (h2 : op ≤ 21) (h3 : op ≠ 8) (h4 : op ≠ 19) : Calls Tryd.prog 33 #[(opk op).v] w fun e w' => e = .returned (.bool true) ∧ Old w w' := by
  have d1 : decide (op < 1) = false := by simp; omega
  have d2 : decide (op > 21) = false := by simp; omega
  have d2' : decide (21 < op) = false := by simp; omega
  have d3 : (op == 8) = false := by simp [h3]
  have d4 : (op == 19) = false := by simp [h4]
  unfold KeyS.v opk
  go_enter Tryd.func33, Tryd.ntmps33
  go_wp2_with (go_at_call 54; refine (whole_empty _).mono ?_; rintro e w1 ⟨rfl, o1⟩; have g1 := (o1.heap (by simp)).trans (at_new w (.cells #[.int .i64 op, .string { data := #[] }, .int .i64 0, .bool false, .bool false] 28) rfl); have c0 : w1.cell? ⟨w.heap.size, 0, none⟩ = some (.int .i64 op) := cell_of_heap g1 0; have c2 : w1.cell? ⟨w.heap.size, 2, none⟩ = some (.int .i64 0) := cell_of_heap g1 2; have O1 := Lib.hid ((Old.alloc w _).trans o1); clear o1 g1)
  go_ret
  exact ⟨rfl, O1.out⟩

theorem key9_any (op : Int) (w : World) (h1 : 1 ≤ op) (h2 : op ≤ 21) (h3 : op ≠ 8) (h4 : op ≠ 19) : Calls Tryd.prog 18 #[(opk op).v] w fun e w' => e = .returned (.bool true) ∧ Old w w' := by
  have d3 : (op == 8) = false := by simp [h3]
  have d4 : (op == 19) = false := by simp [h4]
  have R := Lib.hid (fun W => right_any op W h1 h2 h3 h4)
  have A9 : Hid (asc9 { data := #[] } = true) := asc9_iff.2 ⟨fun i hi => absurd hi (Nat.not_lt_zero i), by decide⟩
  unfold KeyS.v opk at *
  go_enter Tryd.func18, Tryd.ntmps18
  go_wp2_with (first
    | (go_at_call 33; refine (R.out _).mono ?_; rintro e w1 ⟨rfl, o1⟩; have g1 := (o1.heap (by simp)).trans (at_new w (.cells #[.int .i64 op, .string { data := #[] }, .int .i64 0, .bool false, .bool false] 28) rfl); have c0 : w1.cell? ⟨w.heap.size, 0, none⟩ = some (.int .i64 op) := cell_of_heap g1 0; have c1 : w1.cell? ⟨w.heap.size, 1, none⟩ = some (.string { data := #[] }) := cell_of_heap g1 1; have c2 : w1.cell? ⟨w.heap.size, 2, none⟩ = some (.int .i64 0) := cell_of_heap g1 2; have O1 := Lib.hid ((Old.alloc w _).trans o1); clear o1 g1)
    | (go_at_call 30; refine (ascii9_any _ _ (by decide)).mono ?_; rintro e w2 ⟨rfl, rfl⟩; rw [A9.out]))
  go_ret
  exact ⟨rfl, O1.out⟩
end Go.Proofs.YtlfmmmbafkelhaaDoor
