/- FnRuneSliced: the walk. -/
import Derived.Test.YtlfmmmbafkelhaaSliced
namespace Go.Proofs.Ytlfmmmbafkelhaa
open Go.RowKit
set_option linter.unusedVariables false
set_option linter.unusedSimpArgs false
set_option maxRecDepth 100000

set_option maxHeartbeats 1000000 in
theorem rs_guard (s : ByteArray) (k n : Int) (w : World) (hk : (Lit.int .i64 k).wf = true) (hn : (Lit.int .i64 n).wf = true) (hs : s.size ≤ 9223372036854775807) (h : ¬ (ln9 s k = true ∧ n ≠ 0 ∧ -k ≤ n ∧ n ≤ s.size - k)) :
    Calls Try.prog 3 #[.agg #[.string s, .int .i64 k], .int .i64 n] w fun e w' => e = .returned (.bool true) ∧ Old w w' := by
  have H := Lib.hid h
  clear h
  by_cases h1 : 2147483647 < s.size
  · have F : Hid (decide (s.size ≤ 2147483647) = false) := by unfold Hid; simp; omega
    go_enter Try.func3, Try.ntmps3
    go_wp2_with (go_at_call 4; refine (fits_any s k _).mono ?_; rintro e w1 ⟨rfl, o1⟩; rw [F.out]; have O1 := Lib.hid ((Old.alloc w _).trans o1); clear o1)
    go_ret
    exact ⟨rfl, O1.out⟩
  have F : Hid (decide (s.size ≤ 2147483647) = true) := by unfold Hid; simp; omega
  cases h2 : ln9 s k
  · have L9 := Lib.hid h2
    clear h2
    go_enter Try.func3, Try.ntmps3
    go_wp2_with (first
      | (go_at_call 4; refine (fits_any s k _).mono ?_; rintro e w1 ⟨rfl, o1⟩; rw [F.out]
         have g10 : w1.cell? ⟨w.heap.size, 0, none⟩ = some (.string s) := (o1.cell (by simp)).trans ((World.cell?_alloc_mark w #[.string s, .int .i64 k] _ (0, 0) 0).trans rfl)
         have g11 : w1.cell? ⟨w.heap.size, 1, none⟩ = some (.int .i64 k) := (o1.cell (by simp)).trans ((World.cell?_alloc_mark w #[.string s, .int .i64 k] _ (0, 0) 1).trans rfl)
         have hl1 : w.heap.size < w1.heap.size := by have := o1.size; simp at this; omega
         have O1 := Lib.hid ((Old.alloc w _).trans o1); clear o1)
      | (go_at_call 5; refine (line9_any s k _ (by omega) hk).mono ?_; rintro e w2 ⟨rfl, o2⟩; rw [L9.out]
         have g20 := (o2.cell hl1).trans g10
         have g21 := (o2.cell hl1).trans g11
         have hl2 : w.heap.size < w2.heap.size := Nat.lt_of_lt_of_le hl1 o2.size
         have O2 := Lib.hid (O1.out.trans o2); clear o2 g10 g11))
    go_ret
    exact ⟨rfl, O2.out⟩
  have L9 := Lib.hid h2
  have hq : asc9 s = true ∧ 0 ≤ k ∧ k ≤ s.size := by unfold ln9 at h2; simpa using h2
  obtain ⟨_, hk0, hk1⟩ := hq
  have hw := IntWalk.i64_in (-k) (by omega)
  have hw2 := IntWalk.i64_in ((s.size : Int) - k) (by omega)
  by_cases h0 : n = 0
  · subst h0
    clear h2
    go_enter Try.func3, Try.ntmps3
    go_wp2_with (first
      | (go_at_call 4; refine (fits_any s k _).mono ?_; rintro e w1 ⟨rfl, o1⟩; rw [F.out]
         have g10 : w1.cell? ⟨w.heap.size, 0, none⟩ = some (.string s) := (o1.cell (by simp)).trans ((World.cell?_alloc_mark w #[.string s, .int .i64 k] _ (0, 0) 0).trans rfl)
         have g11 : w1.cell? ⟨w.heap.size, 1, none⟩ = some (.int .i64 k) := (o1.cell (by simp)).trans ((World.cell?_alloc_mark w #[.string s, .int .i64 k] _ (0, 0) 1).trans rfl)
         have hl1 : w.heap.size < w1.heap.size := by have := o1.size; simp at this; omega
         have O1 := Lib.hid ((Old.alloc w _).trans o1); clear o1)
      | (go_at_call 5; refine (line9_any s k _ (by omega) hk).mono ?_; rintro e w2 ⟨rfl, o2⟩; rw [L9.out]
         have g20 := (o2.cell hl1).trans g10
         have g21 := (o2.cell hl1).trans g11
         have hl2 : w.heap.size < w2.heap.size := Nat.lt_of_lt_of_le hl1 o2.size
         have O2 := Lib.hid (O1.out.trans o2); clear o2 g10 g11))
    all_goals go_ret
    all_goals exact ⟨rfl, O2.out⟩
  have d0 : (n == 0) = false := by simp; omega
  by_cases h3 : n < -k
  · clear h2
    go_enter Try.func3, Try.ntmps3
    go_wp2_with (first
      | (go_at_call 4; refine (fits_any s k _).mono ?_; rintro e w1 ⟨rfl, o1⟩; rw [F.out]
         have g10 : w1.cell? ⟨w.heap.size, 0, none⟩ = some (.string s) := (o1.cell (by simp)).trans ((World.cell?_alloc_mark w #[.string s, .int .i64 k] _ (0, 0) 0).trans rfl)
         have g11 : w1.cell? ⟨w.heap.size, 1, none⟩ = some (.int .i64 k) := (o1.cell (by simp)).trans ((World.cell?_alloc_mark w #[.string s, .int .i64 k] _ (0, 0) 1).trans rfl)
         have hl1 : w.heap.size < w1.heap.size := by have := o1.size; simp at this; omega
         have O1 := Lib.hid ((Old.alloc w _).trans o1); clear o1)
      | (go_at_call 5; refine (line9_any s k _ (by omega) hk).mono ?_; rintro e w2 ⟨rfl, o2⟩; rw [L9.out]
         have g20 := (o2.cell hl1).trans g10
         have g21 := (o2.cell hl1).trans g11
         have hl2 : w.heap.size < w2.heap.size := Nat.lt_of_lt_of_le hl1 o2.size
         have O2 := Lib.hid (O1.out.trans o2); clear o2 g10 g11))
    all_goals go_ret
    all_goals exact ⟨rfl, O2.out⟩
  have d3 : decide (n < -k) = false := by rw [decide_eq_false_iff_not]; omega
  by_cases h4 : n > s.size - k
  · clear h2
    go_enter Try.func3, Try.ntmps3
    go_wp2_with (first
      | (go_at_call 4; refine (fits_any s k _).mono ?_; rintro e w1 ⟨rfl, o1⟩; rw [F.out]
         have g10 : w1.cell? ⟨w.heap.size, 0, none⟩ = some (.string s) := (o1.cell (by simp)).trans ((World.cell?_alloc_mark w #[.string s, .int .i64 k] _ (0, 0) 0).trans rfl)
         have g11 : w1.cell? ⟨w.heap.size, 1, none⟩ = some (.int .i64 k) := (o1.cell (by simp)).trans ((World.cell?_alloc_mark w #[.string s, .int .i64 k] _ (0, 0) 1).trans rfl)
         have hl1 : w.heap.size < w1.heap.size := by have := o1.size; simp at this; omega
         have O1 := Lib.hid ((Old.alloc w _).trans o1); clear o1)
      | (go_at_call 5; refine (line9_any s k _ (by omega) hk).mono ?_; rintro e w2 ⟨rfl, o2⟩; rw [L9.out]
         have g20 := (o2.cell hl1).trans g10
         have g21 := (o2.cell hl1).trans g11
         have hl2 : w.heap.size < w2.heap.size := Nat.lt_of_lt_of_le hl1 o2.size
         have O2 := Lib.hid (O1.out.trans o2); clear o2 g10 g11))
    all_goals go_ret
    all_goals exact ⟨rfl, O2.out⟩
  exact absurd ⟨h2, h0, by omega, by omega⟩ H.out

set_option maxHeartbeats 1000000 in
theorem rs_fwd (s : ByteArray) (k m : Nat) (w : World) (h1 : asc9 s = true) (hk : k + m ≤ s.size) (hm : 0 < m) (hkw : (Lit.int .i64 (k : Int)).wf = true) :
    Calls Try.prog 3 #[.agg #[.string s, .int .i64 k], .int .i64 m] w fun e w' => e = .returned (.bool true) ∧ Old w w' := by
  have hq := asc9_iff.1 h1
  have h300 := hq.2
  have ha := Lib.hid hq.1
  have F : Hid (decide (s.size ≤ 2147483647) = true) := by unfold Hid; simp; omega
  have L9 : Hid (ln9 s k = true) := by unfold Hid ln9; simp [h1]; omega
  have d0 : ((m : Int) == 0) = false := by simp; omega
  have hw := IntWalk.i64_in (-(k : Int)) (by omega)
  have hw2 := IntWalk.i64_in ((s.size : Int) - k) (by omega)
  have hw3 := IntWalk.i64_in ((k : Int) + m) (by omega)
  have d3 : decide ((m : Int) < -(k : Int)) = false := by rw [decide_eq_false_iff_not]; omega
  have d4 : decide ((m : Int) > (s.size : Int) - k) = false := by rw [decide_eq_false_iff_not]; omega
  have d5 : decide ((m : Int) > 0) = true := by simp; omega
  have e4 : ((k : Int) + m).toNat = k + m := by omega
  clear hq h1
  go_enter Try.func3, Try.ntmps3
  go_wp2_with (first
    | (go_at_call 4; refine (fits_any s k _).mono ?_; rintro e w1 ⟨rfl, o1⟩; rw [F.out]
       have g10 : w1.cell? ⟨w.heap.size, 0, none⟩ = some (.string s) := (o1.cell (by simp)).trans ((World.cell?_alloc_mark w #[.string s, .int .i64 k] _ (0, 0) 0).trans rfl)
       have g11 : w1.cell? ⟨w.heap.size, 1, none⟩ = some (.int .i64 k) := (o1.cell (by simp)).trans ((World.cell?_alloc_mark w #[.string s, .int .i64 k] _ (0, 0) 1).trans rfl)
       have hl1 : w.heap.size < w1.heap.size := by have := o1.size; simp at this; omega
       have O1 := Lib.hid ((Old.alloc w _).trans o1); clear o1)
    | (go_at_call 5; refine (line9_any s k _ (by omega) hkw).mono ?_; rintro e w2 ⟨rfl, o2⟩; rw [L9.out]
       have g20 := (o2.cell hl1).trans g10
       have g21 := (o2.cell hl1).trans g11
       have hl2 : w.heap.size < w2.heap.size := Nat.lt_of_lt_of_le hl1 o2.size
       have O2 := Lib.hid (O1.out.trans o2); clear o2 g10 g11)
    | (go_at_call 6; refine (runeSliced_fwd s k m _ ha.out h300 hk hm).mono ?_; rintro e w3 ⟨rfl, o3⟩; have O3 := Lib.hid (O2.out.trans o3); clear o3))
  go_ret
  exact ⟨rfl, O3.out⟩
set_option maxHeartbeats 1000000 in
theorem rs_bwd (s : ByteArray) (k m : Nat) (w : World) (h1 : asc9 s = true) (hk : k ≤ s.size) (hmk : m ≤ k) (hm : 0 < m) (hkw : (Lit.int .i64 (k : Int)).wf = true) :
    Calls Try.prog 3 #[.agg #[.string s, .int .i64 k], .int .i64 (-(m : Int))] w fun e w' => e = .returned (.bool true) ∧ Old w w' := by
  have hq := asc9_iff.1 h1
  have h300 := hq.2
  have ha := Lib.hid hq.1
  have F : Hid (decide (s.size ≤ 2147483647) = true) := by unfold Hid; simp; omega
  have L9 : Hid (ln9 s k = true) := by unfold Hid ln9; simp [h1]; omega
  have d0 : (-(m : Int) == 0) = false := by simp; omega
  have hw := IntWalk.i64_in (-(k : Int)) (by omega)
  have hw2 := IntWalk.i64_in ((s.size : Int) - k) (by omega)
  have hw3 := IntWalk.i64_in ((k : Int) + -(m : Int)) (by omega)
  have d3 : decide (-(m : Int) < -(k : Int)) = false := by rw [decide_eq_false_iff_not]; omega
  have d4 : decide (-(m : Int) > (s.size : Int) - k) = false := by rw [decide_eq_false_iff_not]; omega
  have d5 : decide (-(m : Int) > 0) = false := by simp
  have e4 : ((k : Int) + -(m : Int)).toNat = k - m := by omega
  clear hq h1
  go_enter Try.func3, Try.ntmps3
  go_wp2_with (first
    | (go_at_call 4; refine (fits_any s k _).mono ?_; rintro e w1 ⟨rfl, o1⟩; rw [F.out]
       have g10 : w1.cell? ⟨w.heap.size, 0, none⟩ = some (.string s) := (o1.cell (by simp)).trans ((World.cell?_alloc_mark w #[.string s, .int .i64 k] _ (0, 0) 0).trans rfl)
       have g11 : w1.cell? ⟨w.heap.size, 1, none⟩ = some (.int .i64 k) := (o1.cell (by simp)).trans ((World.cell?_alloc_mark w #[.string s, .int .i64 k] _ (0, 0) 1).trans rfl)
       have hl1 : w.heap.size < w1.heap.size := by have := o1.size; simp at this; omega
       have O1 := Lib.hid ((Old.alloc w _).trans o1); clear o1)
    | (go_at_call 5; refine (line9_any s k _ (by omega) hkw).mono ?_; rintro e w2 ⟨rfl, o2⟩; rw [L9.out]
       have g20 := (o2.cell hl1).trans g10
       have g21 := (o2.cell hl1).trans g11
       have hl2 : w.heap.size < w2.heap.size := Nat.lt_of_lt_of_le hl1 o2.size
       have O2 := Lib.hid (O1.out.trans o2); clear o2 g10 g11)
    | (go_at_call 6; refine (runeSliced_bwd s k m _ ha.out h300 hk hmk hm).mono ?_; rintro e w3 ⟨rfl, o3⟩; have O3 := Lib.hid (O2.out.trans o3); clear o3))
  go_ret
  exact ⟨rfl, O3.out⟩

theorem rs_walk (s : ByteArray) (k : Int) (n : Int) (w : World) (hs : s.size ≤ 9223372036854775807) (hk : (Lit.int .i64 k).wf = true) (hn : (Lit.int .i64 n).wf = true) :
    Calls Try.prog 3 #[.agg #[.string s, .int .i64 k], .int .i64 n] w fun e w' => e = .returned (.bool true) ∧ Below w.heap.size w w' := by
  by_cases h : ln9 s k = true ∧ n ≠ 0 ∧ -k ≤ n ∧ n ≤ s.size - k
  · obtain ⟨h1, h2, h3, h4⟩ := h
    have hq : asc9 s = true ∧ 0 ≤ k ∧ k ≤ s.size := by unfold ln9 at h1; simpa using h1
    obtain ⟨a, rfl⟩ : ∃ a : Nat, k = a := ⟨k.toNat, by omega⟩
    by_cases h5 : 0 < n
    · obtain ⟨m, rfl⟩ : ∃ m : Nat, n = m := ⟨n.toNat, by omega⟩
      exact rs_fwd s a m w hq.1 (by omega) (by omega) hk
    · obtain ⟨m, rfl⟩ : ∃ m : Nat, n = -(m : Int) := ⟨(-n).toNat, by omega⟩
      exact rs_bwd s a m w hq.1 (by omega) (by omega) (by omega) hk
  · exact rs_guard s k n w hk hn hs h
end Go.Proofs.Ytlfmmmbafkelhaa
