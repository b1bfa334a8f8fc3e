/- spec.Below. -/
import Derived.Test.YtbkdppfjmfepiaaSpecMv
namespace Go.Proofs.Ytbkdppfjmfepiaa
open Go.RowKit
set_option linter.unusedVariables false
set_option linter.unusedSimpArgs false
set_option linter.unnecessarySimpa false
set_option maxRecDepth 100000

/-- There are lines so far below. -/
def belowB (l : Bs) (k n : Nat) : Bool := decide (1 < (splitL l).length ∧ row l k + n < (splitL l).length)
theorem below9_any (l : Bs) (k n : Nat) (w : World) (hk : k ≤ l.length) (ok : okT l) (hn : n ≤ 1000000) : Calls Try.prog 24 #[.agg #[.string (tx l), .int .i64 k], .int .i64 n] w fun e w' => e = .returned (.bool (belowB l k n)) ∧ Old w w' := by
  have OK := Lib.hid ok
  have hm := ok.n
  have hr := (row_spec l k hk).1
  have hsz := splitL_size l
  have RW := Lib.hid (fun w' => row9_any l k w' hk ok)
  have LI := Lib.hid (fun w' => lines9_any l w' hm)
  have R : Hid (belowB l k n = decide (1 < (splitL l).length ∧ row l k + n < (splitL l).length)) := rfl
  obtain ⟨d0, d1, d2⟩ := doc_cells l k w _ rfl
  go_enter Try.func24, Try.ntmps24
  go_upto_region 1 with fail
  generalize hW : w.alloc (.cells #[.string (tx l), .int .i64 k] 47) = Wd at d0 d1 d2 ⊢
  obtain ⟨d, hd⟩ : ∃ d, d = w.heap.size := ⟨_, rfl⟩
  rw [← hd] at d0 d1 ⊢
  have T0 := Lib.hid (show TP l k d w Wd from ⟨d0, d1, d2⟩)
  have PP := splitL_pos l
  clear hW hd d2
  generalize row l k = r at RW R hr
  by_cases h1 : 1 < (splitL l).length
  · by_cases h2 : r + n < (splitL l).length
    · have R2 : Hid (belowB l k n = true) := by unfold Hid; rw [R.out]; exact decide_eq_true ⟨h1, h2⟩
      go_wp2_with (first
        | (go_at_call 55; refine (LI.out _).mono ?_; rintro e w1 ⟨v, rfl, o1, r1⟩; obtain ⟨vb, vc, rfl, _⟩ := lineVs_at r1 PP; have T1 := Lib.hid (T0.out.old o1); have e0 := T1.out.1; have e1 := T1.out.2.1; clear o1 r1)
        | (go_at_call 56; refine (RW.out _).mono ?_; rintro e w2 ⟨rfl, o2⟩; have T2 := Lib.hid (T1.out.old o2); clear o2))
      go_ret
      exact ⟨ret_bool (by rw [R2.out]; symm; rw [decide_eq_true_iff]; omega), T2.out.2.2⟩
    · have R2 : Hid (belowB l k n = false) := by unfold Hid; rw [R.out]; exact decide_eq_false (fun h => h2 h.2)
      go_wp2_with (first
        | (go_at_call 55; refine (LI.out _).mono ?_; rintro e w1 ⟨v, rfl, o1, r1⟩; obtain ⟨vb, vc, rfl, _⟩ := lineVs_at r1 PP; have T1 := Lib.hid (T0.out.old o1); have e0 := T1.out.1; have e1 := T1.out.2.1; clear o1 r1)
        | (go_at_call 56; refine (RW.out _).mono ?_; rintro e w2 ⟨rfl, o2⟩; have T2 := Lib.hid (T1.out.old o2); clear o2))
      go_ret
      exact ⟨ret_bool (by rw [R2.out]; symm; rw [decide_eq_false_iff_not]; omega), T2.out.2.2⟩
  · have R2 : Hid (belowB l k n = false) := by unfold Hid; rw [R.out]; exact decide_eq_false (fun h => h1 h.1)
    go_wp2_with (first
      | (go_at_call 55; refine (LI.out _).mono ?_; rintro e w1 ⟨v, rfl, o1, r1⟩; obtain ⟨vb, vc, rfl, _⟩ := lineVs_at r1 PP; have T1 := Lib.hid (T0.out.old o1); have e0 := T1.out.1; have e1 := T1.out.2.1; clear o1 r1)
      | (go_at_call 56; refine (RW.out _).mono ?_; rintro e w2 ⟨rfl, o2⟩; have T2 := Lib.hid (T1.out.old o2); clear o2))
    go_ret
    exact ⟨ret_bool R2.out, T1.out.2.2⟩
end Go.Proofs.Ytbkdppfjmfepiaa
