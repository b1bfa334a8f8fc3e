/- FnKeyTakes: the walk. -/
import Derived.Test.YtlfmmmbafkelhaaDoorOneT
import Derived.OpenShut
namespace Go.Proofs.YtlfmmmbafkelhaaDoor
open Go.RowKit
set_option linter.unusedVariables false
set_option linter.unusedSimpArgs false
set_option maxRecDepth 100000

set_option maxHeartbeats 2000000 in
theorem kt_main0 (s : ByteArray) (k x : Int) (w : World) (hs : s.size ≤ 2147483647) (hk : (Lit.int .i64 k).wf = true) (hx : (Lit.int .u8 x).wf = true) (hm : Int.tmod x 6 = 0) :
    Calls Tryd.prog 9 #[.agg #[.string s, .int .i64 k], .int .u8 x] w fun e w' => e = .returned (.bool true) ∧ Old w w' := by
  have F : Hid (decide (s.size ≤ 2147483647) = true) := by unfold Hid; simp; omega
  have C := Lib.hid (fun W => one9_takes 6 (by omega) s k W hs hk)
  unfold KeyS.v opk at C
  go_enter Tryd.func9, Tryd.ntmps9
  go_wp2_with (go_at_call 12; refine (fits_any s k _).mono ?_; rintro e w1 ⟨rfl, o1⟩; rw [F.out]
               have g1 : w1.heap[w.heap.size]? = some (.cells #[.string s, .int .i64 k] 23) := (o1.heap (by simp)).trans (at_new _ _ rfl)
               have f10 := cell_of_heap g1 0
               have f11 := cell_of_heap g1 1
               simp only [List.getElem?_toArray, List.getElem?_cons_zero, List.getElem?_cons_succ] at f10 f11
               have hlt := (Array.getElem?_eq_some_iff.1 g1).1
               have O1 := Lib.hid ((Old.alloc w _).trans o1); clear o1 g1)
  have O2 := Lib.hid (O1.out.trans (Old.drew w1))
  have c0' : w1.drew.cell? ⟨w.heap.size, 0, none⟩ = some (.string s) := f10
  have c1' : w1.drew.cell? ⟨w.heap.size, 1, none⟩ = some (.int .i64 k) := f11
  have n0 : ¬ w1.heap.size = w.heap.size := by omega
  refine wp_region_noPanic ?_
  refine wp_region_held_drew (S := fun W => W.cell? ⟨w.heap.size, 0, none⟩ = some (.string s) ∧ W.cell? ⟨w.heap.size, 1, none⟩ = some (.int .i64 k)) (by kernel_rfl) (by (try dsimp only); (first | exact ⟨c0', c1'⟩ | exact hHeld0 | exact ⟨c20, c21⟩ | (go_keep; done))) (fun hHeld0 => ?_)
  refine wpAnyH_take (i := 0) (v := ?_) rfl (by kernel_rfl) (by kernel_rfl) (by kernel_rfl) (fun _ _ _ h => h) (Or.inl ⟨by rfl, ?_⟩) (by assumption) ?_
  rotate_left
  · (intro w hSw; (try dsimp only at hSw); go_simp; try with_reducible rfl)
  try simp only [Act.put, List.getElem_toArray, List.getElem_cons_succ, List.getElem_cons_zero, List.setIfInBounds_toArray, List.set_cons_zero, List.set_cons_succ]
  refine wpAnyH_take (i := 2) (v := ?_) rfl (by kernel_rfl) (by kernel_rfl) (by kernel_rfl) (fun _ _ _ h => h) (Or.inl ⟨by rfl, ?_⟩) (by assumption) ?_
  rotate_left
  · (intro w hSw; (try dsimp only at hSw); go_simp; try with_reducible rfl)
  try simp only [Act.put, List.getElem_toArray, List.getElem_cons_succ, List.getElem_cons_zero, List.setIfInBounds_toArray, List.set_cons_zero, List.set_cons_succ]
  refine wpAnyH_take (i := 3) (v := ?_) rfl (by kernel_rfl) (by kernel_rfl) (by kernel_rfl) (fun _ _ _ h => h) (Or.inl ⟨by rfl, ?_⟩) (by assumption) ?_
  rotate_left
  · (intro w hSw; (try dsimp only at hSw); go_simp; try with_reducible rfl)
  try simp only [Act.put, List.getElem_toArray, List.getElem_cons_succ, List.getElem_cons_zero, List.setIfInBounds_toArray, List.set_cons_zero, List.set_cons_succ]
  refine wpAnyH_ready (rs := [1]) (by kernel_rfl) (by simp) ?_
  refine AllReadyH.cons rfl (fun K hK => ?_) AllReadyH.nil
  go_simp
  refine hK.out _ _ ?_ (fun hHeld1 => ?_)
  · (try dsimp only)
    (first | exact ⟨c0', c1'⟩ | exact hHeld0 | exact ⟨c20, c21⟩ | (go_keep; done))
  clear hK K hHeld0
  try simp only [Act.put, List.getElem_toArray, List.getElem_cons_succ, List.getElem_cons_zero, List.setIfInBounds_toArray, List.set_cons_zero, List.set_cons_succ]
  refine wpAnyH_take (i := 4) (v := ?_) rfl (by kernel_rfl) (by kernel_rfl) (by kernel_rfl) (fun _ _ _ h => h) (Or.inl ⟨by rfl, ?_⟩) (by assumption) ?_
  rotate_left
  · (intro w hSw; (try dsimp only at hSw); go_simp; try with_reducible rfl)
  try simp only [Act.put, List.getElem_toArray, List.getElem_cons_succ, List.getElem_cons_zero, List.setIfInBounds_toArray, List.set_cons_zero, List.set_cons_succ]
  refine wpAnyH_ready (rs := [5]) (by kernel_rfl) (by simp) ?_
  refine AllReadyH.cons rfl (fun K hK => ?_) AllReadyH.nil
  go_simp
  refine hK.out _ _ ?_ (fun hHeld2 => ?_)
  · (try dsimp only)
    (first | exact ⟨c0', c1'⟩ | exact hHeld1 | exact ⟨c20, c21⟩ | (go_keep; done))
  clear hK K hHeld1
  try simp only [Act.put, List.getElem_toArray, List.getElem_cons_succ, List.getElem_cons_zero, List.setIfInBounds_toArray, List.set_cons_zero, List.set_cons_succ]
  refine wpAnyH_take (i := 6) (v := ?_) rfl (by kernel_rfl) (by kernel_rfl) (by kernel_rfl) (fun _ _ _ h => h) (Or.inl ⟨by rfl, ?_⟩) (by assumption) ?_
  rotate_left
  · (intro w hSw; (try dsimp only at hSw); go_simp; try with_reducible rfl)
  try simp only [Act.put, List.getElem_toArray, List.getElem_cons_succ, List.getElem_cons_zero, List.setIfInBounds_toArray, List.set_cons_zero, List.set_cons_succ]
  refine wpAnyH_ready (rs := [7]) (by kernel_rfl) (by simp) ?_
  refine AllReadyH.cons rfl (fun K hK => ?_) AllReadyH.nil
  go_simp
  (first
      | (go_at_call 23; refine (C.out _).mono ?_; rintro e w5 ⟨rfl, q5⟩
         have hq : ∀ o : Obj, w1.drew.heap.size ≤ (w1.drew.alloc o).heap.size := fun o => (Old.alloc w1.drew o).size
         have c20 := (q5.cell (by simp; omega)).trans (((Old.alloc w1.drew _).cell hlt).trans c0')
         have c21 := (q5.cell (by simp; omega)).trans (((Old.alloc w1.drew _).cell hlt).trans c1')
         have O5 := Lib.hid ((O2.out.trans (Old.alloc _ _)).trans q5)
         clear q5))
  (try go_wp2_with fail)
  refine hK.out _ _ ?_ (fun hHeld3 => ?_)
  · (try dsimp only)
    (first | exact ⟨c0', c1'⟩ | exact hHeld2 | exact ⟨c20, c21⟩ | (go_keep; done))
  clear hK K hHeld2
  try simp only [Act.put, List.getElem_toArray, List.getElem_cons_succ, List.getElem_cons_zero, List.setIfInBounds_toArray, List.set_cons_zero, List.set_cons_succ]
  refine wpAnyH_take (i := 8) (v := ?_) rfl (by kernel_rfl) (by kernel_rfl) (by kernel_rfl) (fun _ _ _ h => h) (Or.inl ⟨by rfl, ?_⟩) (by assumption) ?_
  rotate_left
  · (intro w hSw; (try dsimp only at hSw); go_simp; try with_reducible rfl)
  try simp only [Act.put, List.getElem_toArray, List.getElem_cons_succ, List.getElem_cons_zero, List.setIfInBounds_toArray, List.set_cons_zero, List.set_cons_succ]
  refine wpAnyH_done (by kernel_rfl) ?_ _
  refine NoPanic.normal ?_
  go_wp2_with fail
  go_ret
  exact ⟨rfl, O5.out⟩

set_option maxHeartbeats 2000000 in
theorem kt_main1 (s : ByteArray) (k x : Int) (w : World) (hs : s.size ≤ 2147483647) (hk : (Lit.int .i64 k).wf = true) (hx : (Lit.int .u8 x).wf = true) (hm : Int.tmod x 6 = 1) :
    Calls Tryd.prog 9 #[.agg #[.string s, .int .i64 k], .int .u8 x] w fun e w' => e = .returned (.bool true) ∧ Old w w' := by
  have F : Hid (decide (s.size ≤ 2147483647) = true) := by unfold Hid; simp; omega
  have C := Lib.hid (fun W => one9_takes 7 (by omega) s k W hs hk)
  unfold KeyS.v opk at C
  go_enter Tryd.func9, Tryd.ntmps9
  go_wp2_with (go_at_call 12; refine (fits_any s k _).mono ?_; rintro e w1 ⟨rfl, o1⟩; rw [F.out]
               have g1 : w1.heap[w.heap.size]? = some (.cells #[.string s, .int .i64 k] 23) := (o1.heap (by simp)).trans (at_new _ _ rfl)
               have f10 := cell_of_heap g1 0
               have f11 := cell_of_heap g1 1
               simp only [List.getElem?_toArray, List.getElem?_cons_zero, List.getElem?_cons_succ] at f10 f11
               have hlt := (Array.getElem?_eq_some_iff.1 g1).1
               have O1 := Lib.hid ((Old.alloc w _).trans o1); clear o1 g1)
  have O2 := Lib.hid (O1.out.trans (Old.drew w1))
  have c0' : w1.drew.cell? ⟨w.heap.size, 0, none⟩ = some (.string s) := f10
  have c1' : w1.drew.cell? ⟨w.heap.size, 1, none⟩ = some (.int .i64 k) := f11
  have n0 : ¬ w1.heap.size = w.heap.size := by omega
  refine wp_region_noPanic ?_
  refine wp_region_held_drew (S := fun W => W.cell? ⟨w.heap.size, 0, none⟩ = some (.string s) ∧ W.cell? ⟨w.heap.size, 1, none⟩ = some (.int .i64 k)) (by kernel_rfl) (by (try dsimp only); (first | exact ⟨c0', c1'⟩ | exact hHeld0 | exact ⟨c20, c21⟩ | (go_keep; done))) (fun hHeld0 => ?_)
  refine wpAnyH_take (i := 0) (v := ?_) rfl (by kernel_rfl) (by kernel_rfl) (by kernel_rfl) (fun _ _ _ h => h) (Or.inl ⟨by rfl, ?_⟩) (by assumption) ?_
  rotate_left
  · (intro w hSw; (try dsimp only at hSw); go_simp; try with_reducible rfl)
  try simp only [Act.put, List.getElem_toArray, List.getElem_cons_succ, List.getElem_cons_zero, List.setIfInBounds_toArray, List.set_cons_zero, List.set_cons_succ]
  refine wpAnyH_take (i := 2) (v := ?_) rfl (by kernel_rfl) (by kernel_rfl) (by kernel_rfl) (fun _ _ _ h => h) (Or.inl ⟨by rfl, ?_⟩) (by assumption) ?_
  rotate_left
  · (intro w hSw; (try dsimp only at hSw); go_simp; try with_reducible rfl)
  try simp only [Act.put, List.getElem_toArray, List.getElem_cons_succ, List.getElem_cons_zero, List.setIfInBounds_toArray, List.set_cons_zero, List.set_cons_succ]
  refine wpAnyH_take (i := 3) (v := ?_) rfl (by kernel_rfl) (by kernel_rfl) (by kernel_rfl) (fun _ _ _ h => h) (Or.inl ⟨by rfl, ?_⟩) (by assumption) ?_
  rotate_left
  · (intro w hSw; (try dsimp only at hSw); go_simp; try with_reducible rfl)
  try simp only [Act.put, List.getElem_toArray, List.getElem_cons_succ, List.getElem_cons_zero, List.setIfInBounds_toArray, List.set_cons_zero, List.set_cons_succ]
  refine wpAnyH_ready (rs := [1]) (by kernel_rfl) (by simp) ?_
  refine AllReadyH.cons rfl (fun K hK => ?_) AllReadyH.nil
  go_simp
  refine hK.out _ _ ?_ (fun hHeld1 => ?_)
  · (try dsimp only)
    (first | exact ⟨c0', c1'⟩ | exact hHeld0 | exact ⟨c20, c21⟩ | (go_keep; done))
  clear hK K hHeld0
  try simp only [Act.put, List.getElem_toArray, List.getElem_cons_succ, List.getElem_cons_zero, List.setIfInBounds_toArray, List.set_cons_zero, List.set_cons_succ]
  refine wpAnyH_take (i := 4) (v := ?_) rfl (by kernel_rfl) (by kernel_rfl) (by kernel_rfl) (fun _ _ _ h => h) (Or.inl ⟨by rfl, ?_⟩) (by assumption) ?_
  rotate_left
  · (intro w hSw; (try dsimp only at hSw); go_simp; try with_reducible rfl)
  try simp only [Act.put, List.getElem_toArray, List.getElem_cons_succ, List.getElem_cons_zero, List.setIfInBounds_toArray, List.set_cons_zero, List.set_cons_succ]
  refine wpAnyH_ready (rs := [5]) (by kernel_rfl) (by simp) ?_
  refine AllReadyH.cons rfl (fun K hK => ?_) AllReadyH.nil
  go_simp
  refine hK.out _ _ ?_ (fun hHeld2 => ?_)
  · (try dsimp only)
    (first | exact ⟨c0', c1'⟩ | exact hHeld1 | exact ⟨c20, c21⟩ | (go_keep; done))
  clear hK K hHeld1
  try simp only [Act.put, List.getElem_toArray, List.getElem_cons_succ, List.getElem_cons_zero, List.setIfInBounds_toArray, List.set_cons_zero, List.set_cons_succ]
  refine wpAnyH_take (i := 6) (v := ?_) rfl (by kernel_rfl) (by kernel_rfl) (by kernel_rfl) (fun _ _ _ h => h) (Or.inl ⟨by rfl, ?_⟩) (by assumption) ?_
  rotate_left
  · (intro w hSw; (try dsimp only at hSw); go_simp; try with_reducible rfl)
  try simp only [Act.put, List.getElem_toArray, List.getElem_cons_succ, List.getElem_cons_zero, List.setIfInBounds_toArray, List.set_cons_zero, List.set_cons_succ]
  refine wpAnyH_ready (rs := [7]) (by kernel_rfl) (by simp) ?_
  refine AllReadyH.cons rfl (fun K hK => ?_) AllReadyH.nil
  go_simp
  (first
      | (go_at_call 23; refine (C.out _).mono ?_; rintro e w5 ⟨rfl, q5⟩
         have hq : ∀ o : Obj, w1.drew.heap.size ≤ (w1.drew.alloc o).heap.size := fun o => (Old.alloc w1.drew o).size
         have c20 := (q5.cell (by simp; omega)).trans (((Old.alloc w1.drew _).cell hlt).trans c0')
         have c21 := (q5.cell (by simp; omega)).trans (((Old.alloc w1.drew _).cell hlt).trans c1')
         have O5 := Lib.hid ((O2.out.trans (Old.alloc _ _)).trans q5)
         clear q5))
  (try go_wp2_with fail)
  refine hK.out _ _ ?_ (fun hHeld3 => ?_)
  · (try dsimp only)
    (first | exact ⟨c0', c1'⟩ | exact hHeld2 | exact ⟨c20, c21⟩ | (go_keep; done))
  clear hK K hHeld2
  try simp only [Act.put, List.getElem_toArray, List.getElem_cons_succ, List.getElem_cons_zero, List.setIfInBounds_toArray, List.set_cons_zero, List.set_cons_succ]
  refine wpAnyH_take (i := 8) (v := ?_) rfl (by kernel_rfl) (by kernel_rfl) (by kernel_rfl) (fun _ _ _ h => h) (Or.inl ⟨by rfl, ?_⟩) (by assumption) ?_
  rotate_left
  · (intro w hSw; (try dsimp only at hSw); go_simp; try with_reducible rfl)
  try simp only [Act.put, List.getElem_toArray, List.getElem_cons_succ, List.getElem_cons_zero, List.setIfInBounds_toArray, List.set_cons_zero, List.set_cons_succ]
  refine wpAnyH_done (by kernel_rfl) ?_ _
  refine NoPanic.normal ?_
  go_wp2_with fail
  go_ret
  exact ⟨rfl, O5.out⟩

set_option maxHeartbeats 2000000 in
theorem kt_main2 (s : ByteArray) (k x : Int) (w : World) (hs : s.size ≤ 2147483647) (hk : (Lit.int .i64 k).wf = true) (hx : (Lit.int .u8 x).wf = true) (hm : Int.tmod x 6 = 2) :
    Calls Tryd.prog 9 #[.agg #[.string s, .int .i64 k], .int .u8 x] w fun e w' => e = .returned (.bool true) ∧ Old w w' := by
  have F : Hid (decide (s.size ≤ 2147483647) = true) := by unfold Hid; simp; omega
  have C := Lib.hid (fun W => one9_takes 9 (by omega) s k W hs hk)
  unfold KeyS.v opk at C
  go_enter Tryd.func9, Tryd.ntmps9
  go_wp2_with (go_at_call 12; refine (fits_any s k _).mono ?_; rintro e w1 ⟨rfl, o1⟩; rw [F.out]
               have g1 : w1.heap[w.heap.size]? = some (.cells #[.string s, .int .i64 k] 23) := (o1.heap (by simp)).trans (at_new _ _ rfl)
               have f10 := cell_of_heap g1 0
               have f11 := cell_of_heap g1 1
               simp only [List.getElem?_toArray, List.getElem?_cons_zero, List.getElem?_cons_succ] at f10 f11
               have hlt := (Array.getElem?_eq_some_iff.1 g1).1
               have O1 := Lib.hid ((Old.alloc w _).trans o1); clear o1 g1)
  have O2 := Lib.hid (O1.out.trans (Old.drew w1))
  have c0' : w1.drew.cell? ⟨w.heap.size, 0, none⟩ = some (.string s) := f10
  have c1' : w1.drew.cell? ⟨w.heap.size, 1, none⟩ = some (.int .i64 k) := f11
  have n0 : ¬ w1.heap.size = w.heap.size := by omega
  refine wp_region_noPanic ?_
  refine wp_region_held_drew (S := fun W => W.cell? ⟨w.heap.size, 0, none⟩ = some (.string s) ∧ W.cell? ⟨w.heap.size, 1, none⟩ = some (.int .i64 k)) (by kernel_rfl) (by (try dsimp only); (first | exact ⟨c0', c1'⟩ | exact hHeld0 | exact ⟨c20, c21⟩ | (go_keep; done))) (fun hHeld0 => ?_)
  refine wpAnyH_take (i := 0) (v := ?_) rfl (by kernel_rfl) (by kernel_rfl) (by kernel_rfl) (fun _ _ _ h => h) (Or.inl ⟨by rfl, ?_⟩) (by assumption) ?_
  rotate_left
  · (intro w hSw; (try dsimp only at hSw); go_simp; try with_reducible rfl)
  try simp only [Act.put, List.getElem_toArray, List.getElem_cons_succ, List.getElem_cons_zero, List.setIfInBounds_toArray, List.set_cons_zero, List.set_cons_succ]
  refine wpAnyH_take (i := 2) (v := ?_) rfl (by kernel_rfl) (by kernel_rfl) (by kernel_rfl) (fun _ _ _ h => h) (Or.inl ⟨by rfl, ?_⟩) (by assumption) ?_
  rotate_left
  · (intro w hSw; (try dsimp only at hSw); go_simp; try with_reducible rfl)
  try simp only [Act.put, List.getElem_toArray, List.getElem_cons_succ, List.getElem_cons_zero, List.setIfInBounds_toArray, List.set_cons_zero, List.set_cons_succ]
  refine wpAnyH_take (i := 3) (v := ?_) rfl (by kernel_rfl) (by kernel_rfl) (by kernel_rfl) (fun _ _ _ h => h) (Or.inl ⟨by rfl, ?_⟩) (by assumption) ?_
  rotate_left
  · (intro w hSw; (try dsimp only at hSw); go_simp; try with_reducible rfl)
  try simp only [Act.put, List.getElem_toArray, List.getElem_cons_succ, List.getElem_cons_zero, List.setIfInBounds_toArray, List.set_cons_zero, List.set_cons_succ]
  refine wpAnyH_ready (rs := [1]) (by kernel_rfl) (by simp) ?_
  refine AllReadyH.cons rfl (fun K hK => ?_) AllReadyH.nil
  go_simp
  refine hK.out _ _ ?_ (fun hHeld1 => ?_)
  · (try dsimp only)
    (first | exact ⟨c0', c1'⟩ | exact hHeld0 | exact ⟨c20, c21⟩ | (go_keep; done))
  clear hK K hHeld0
  try simp only [Act.put, List.getElem_toArray, List.getElem_cons_succ, List.getElem_cons_zero, List.setIfInBounds_toArray, List.set_cons_zero, List.set_cons_succ]
  refine wpAnyH_take (i := 4) (v := ?_) rfl (by kernel_rfl) (by kernel_rfl) (by kernel_rfl) (fun _ _ _ h => h) (Or.inl ⟨by rfl, ?_⟩) (by assumption) ?_
  rotate_left
  · (intro w hSw; (try dsimp only at hSw); go_simp; try with_reducible rfl)
  try simp only [Act.put, List.getElem_toArray, List.getElem_cons_succ, List.getElem_cons_zero, List.setIfInBounds_toArray, List.set_cons_zero, List.set_cons_succ]
  refine wpAnyH_ready (rs := [5]) (by kernel_rfl) (by simp) ?_
  refine AllReadyH.cons rfl (fun K hK => ?_) AllReadyH.nil
  go_simp
  refine hK.out _ _ ?_ (fun hHeld2 => ?_)
  · (try dsimp only)
    (first | exact ⟨c0', c1'⟩ | exact hHeld1 | exact ⟨c20, c21⟩ | (go_keep; done))
  clear hK K hHeld1
  try simp only [Act.put, List.getElem_toArray, List.getElem_cons_succ, List.getElem_cons_zero, List.setIfInBounds_toArray, List.set_cons_zero, List.set_cons_succ]
  refine wpAnyH_take (i := 6) (v := ?_) rfl (by kernel_rfl) (by kernel_rfl) (by kernel_rfl) (fun _ _ _ h => h) (Or.inl ⟨by rfl, ?_⟩) (by assumption) ?_
  rotate_left
  · (intro w hSw; (try dsimp only at hSw); go_simp; try with_reducible rfl)
  try simp only [Act.put, List.getElem_toArray, List.getElem_cons_succ, List.getElem_cons_zero, List.setIfInBounds_toArray, List.set_cons_zero, List.set_cons_succ]
  refine wpAnyH_ready (rs := [7]) (by kernel_rfl) (by simp) ?_
  refine AllReadyH.cons rfl (fun K hK => ?_) AllReadyH.nil
  go_simp
  (first
      | (go_at_call 23; refine (C.out _).mono ?_; rintro e w5 ⟨rfl, q5⟩
         have hq : ∀ o : Obj, w1.drew.heap.size ≤ (w1.drew.alloc o).heap.size := fun o => (Old.alloc w1.drew o).size
         have c20 := (q5.cell (by simp; omega)).trans (((Old.alloc w1.drew _).cell hlt).trans c0')
         have c21 := (q5.cell (by simp; omega)).trans (((Old.alloc w1.drew _).cell hlt).trans c1')
         have O5 := Lib.hid ((O2.out.trans (Old.alloc _ _)).trans q5)
         clear q5))
  (try go_wp2_with fail)
  refine hK.out _ _ ?_ (fun hHeld3 => ?_)
  · (try dsimp only)
    (first | exact ⟨c0', c1'⟩ | exact hHeld2 | exact ⟨c20, c21⟩ | (go_keep; done))
  clear hK K hHeld2
  try simp only [Act.put, List.getElem_toArray, List.getElem_cons_succ, List.getElem_cons_zero, List.setIfInBounds_toArray, List.set_cons_zero, List.set_cons_succ]
  refine wpAnyH_take (i := 8) (v := ?_) rfl (by kernel_rfl) (by kernel_rfl) (by kernel_rfl) (fun _ _ _ h => h) (Or.inl ⟨by rfl, ?_⟩) (by assumption) ?_
  rotate_left
  · (intro w hSw; (try dsimp only at hSw); go_simp; try with_reducible rfl)
  try simp only [Act.put, List.getElem_toArray, List.getElem_cons_succ, List.getElem_cons_zero, List.setIfInBounds_toArray, List.set_cons_zero, List.set_cons_succ]
  refine wpAnyH_done (by kernel_rfl) ?_ _
  refine NoPanic.normal ?_
  go_wp2_with fail
  go_ret
  exact ⟨rfl, O5.out⟩

set_option maxHeartbeats 2000000 in
theorem kt_main3 (s : ByteArray) (k x : Int) (w : World) (hs : s.size ≤ 2147483647) (hk : (Lit.int .i64 k).wf = true) (hx : (Lit.int .u8 x).wf = true) (hm : Int.tmod x 6 = 3) :
    Calls Tryd.prog 9 #[.agg #[.string s, .int .i64 k], .int .u8 x] w fun e w' => e = .returned (.bool true) ∧ Old w w' := by
  have F : Hid (decide (s.size ≤ 2147483647) = true) := by unfold Hid; simp; omega
  have C := Lib.hid (fun W => one9_takes 15 (by omega) s k W hs hk)
  unfold KeyS.v opk at C
  go_enter Tryd.func9, Tryd.ntmps9
  go_wp2_with (go_at_call 12; refine (fits_any s k _).mono ?_; rintro e w1 ⟨rfl, o1⟩; rw [F.out]
               have g1 : w1.heap[w.heap.size]? = some (.cells #[.string s, .int .i64 k] 23) := (o1.heap (by simp)).trans (at_new _ _ rfl)
               have f10 := cell_of_heap g1 0
               have f11 := cell_of_heap g1 1
               simp only [List.getElem?_toArray, List.getElem?_cons_zero, List.getElem?_cons_succ] at f10 f11
               have hlt := (Array.getElem?_eq_some_iff.1 g1).1
               have O1 := Lib.hid ((Old.alloc w _).trans o1); clear o1 g1)
  have O2 := Lib.hid (O1.out.trans (Old.drew w1))
  have c0' : w1.drew.cell? ⟨w.heap.size, 0, none⟩ = some (.string s) := f10
  have c1' : w1.drew.cell? ⟨w.heap.size, 1, none⟩ = some (.int .i64 k) := f11
  have n0 : ¬ w1.heap.size = w.heap.size := by omega
  refine wp_region_noPanic ?_
  refine wp_region_held_drew (S := fun W => W.cell? ⟨w.heap.size, 0, none⟩ = some (.string s) ∧ W.cell? ⟨w.heap.size, 1, none⟩ = some (.int .i64 k)) (by kernel_rfl) (by (try dsimp only); (first | exact ⟨c0', c1'⟩ | exact hHeld0 | exact ⟨c20, c21⟩ | (go_keep; done))) (fun hHeld0 => ?_)
  refine wpAnyH_take (i := 0) (v := ?_) rfl (by kernel_rfl) (by kernel_rfl) (by kernel_rfl) (fun _ _ _ h => h) (Or.inl ⟨by rfl, ?_⟩) (by assumption) ?_
  rotate_left
  · (intro w hSw; (try dsimp only at hSw); go_simp; try with_reducible rfl)
  try simp only [Act.put, List.getElem_toArray, List.getElem_cons_succ, List.getElem_cons_zero, List.setIfInBounds_toArray, List.set_cons_zero, List.set_cons_succ]
  refine wpAnyH_take (i := 2) (v := ?_) rfl (by kernel_rfl) (by kernel_rfl) (by kernel_rfl) (fun _ _ _ h => h) (Or.inl ⟨by rfl, ?_⟩) (by assumption) ?_
  rotate_left
  · (intro w hSw; (try dsimp only at hSw); go_simp; try with_reducible rfl)
  try simp only [Act.put, List.getElem_toArray, List.getElem_cons_succ, List.getElem_cons_zero, List.setIfInBounds_toArray, List.set_cons_zero, List.set_cons_succ]
  refine wpAnyH_take (i := 3) (v := ?_) rfl (by kernel_rfl) (by kernel_rfl) (by kernel_rfl) (fun _ _ _ h => h) (Or.inl ⟨by rfl, ?_⟩) (by assumption) ?_
  rotate_left
  · (intro w hSw; (try dsimp only at hSw); go_simp; try with_reducible rfl)
  try simp only [Act.put, List.getElem_toArray, List.getElem_cons_succ, List.getElem_cons_zero, List.setIfInBounds_toArray, List.set_cons_zero, List.set_cons_succ]
  refine wpAnyH_ready (rs := [1]) (by kernel_rfl) (by simp) ?_
  refine AllReadyH.cons rfl (fun K hK => ?_) AllReadyH.nil
  go_simp
  refine hK.out _ _ ?_ (fun hHeld1 => ?_)
  · (try dsimp only)
    (first | exact ⟨c0', c1'⟩ | exact hHeld0 | exact ⟨c20, c21⟩ | (go_keep; done))
  clear hK K hHeld0
  try simp only [Act.put, List.getElem_toArray, List.getElem_cons_succ, List.getElem_cons_zero, List.setIfInBounds_toArray, List.set_cons_zero, List.set_cons_succ]
  refine wpAnyH_take (i := 4) (v := ?_) rfl (by kernel_rfl) (by kernel_rfl) (by kernel_rfl) (fun _ _ _ h => h) (Or.inl ⟨by rfl, ?_⟩) (by assumption) ?_
  rotate_left
  · (intro w hSw; (try dsimp only at hSw); go_simp; try with_reducible rfl)
  try simp only [Act.put, List.getElem_toArray, List.getElem_cons_succ, List.getElem_cons_zero, List.setIfInBounds_toArray, List.set_cons_zero, List.set_cons_succ]
  refine wpAnyH_ready (rs := [5]) (by kernel_rfl) (by simp) ?_
  refine AllReadyH.cons rfl (fun K hK => ?_) AllReadyH.nil
  go_simp
  refine hK.out _ _ ?_ (fun hHeld2 => ?_)
  · (try dsimp only)
    (first | exact ⟨c0', c1'⟩ | exact hHeld1 | exact ⟨c20, c21⟩ | (go_keep; done))
  clear hK K hHeld1
  try simp only [Act.put, List.getElem_toArray, List.getElem_cons_succ, List.getElem_cons_zero, List.setIfInBounds_toArray, List.set_cons_zero, List.set_cons_succ]
  refine wpAnyH_take (i := 6) (v := ?_) rfl (by kernel_rfl) (by kernel_rfl) (by kernel_rfl) (fun _ _ _ h => h) (Or.inl ⟨by rfl, ?_⟩) (by assumption) ?_
  rotate_left
  · (intro w hSw; (try dsimp only at hSw); go_simp; try with_reducible rfl)
  try simp only [Act.put, List.getElem_toArray, List.getElem_cons_succ, List.getElem_cons_zero, List.setIfInBounds_toArray, List.set_cons_zero, List.set_cons_succ]
  refine wpAnyH_ready (rs := [7]) (by kernel_rfl) (by simp) ?_
  refine AllReadyH.cons rfl (fun K hK => ?_) AllReadyH.nil
  go_simp
  (first
      | (go_at_call 23; refine (C.out _).mono ?_; rintro e w5 ⟨rfl, q5⟩
         have hq : ∀ o : Obj, w1.drew.heap.size ≤ (w1.drew.alloc o).heap.size := fun o => (Old.alloc w1.drew o).size
         have c20 := (q5.cell (by simp; omega)).trans (((Old.alloc w1.drew _).cell hlt).trans c0')
         have c21 := (q5.cell (by simp; omega)).trans (((Old.alloc w1.drew _).cell hlt).trans c1')
         have O5 := Lib.hid ((O2.out.trans (Old.alloc _ _)).trans q5)
         clear q5))
  (try go_wp2_with fail)
  refine hK.out _ _ ?_ (fun hHeld3 => ?_)
  · (try dsimp only)
    (first | exact ⟨c0', c1'⟩ | exact hHeld2 | exact ⟨c20, c21⟩ | (go_keep; done))
  clear hK K hHeld2
  try simp only [Act.put, List.getElem_toArray, List.getElem_cons_succ, List.getElem_cons_zero, List.setIfInBounds_toArray, List.set_cons_zero, List.set_cons_succ]
  refine wpAnyH_take (i := 8) (v := ?_) rfl (by kernel_rfl) (by kernel_rfl) (by kernel_rfl) (fun _ _ _ h => h) (Or.inl ⟨by rfl, ?_⟩) (by assumption) ?_
  rotate_left
  · (intro w hSw; (try dsimp only at hSw); go_simp; try with_reducible rfl)
  try simp only [Act.put, List.getElem_toArray, List.getElem_cons_succ, List.getElem_cons_zero, List.setIfInBounds_toArray, List.set_cons_zero, List.set_cons_succ]
  refine wpAnyH_done (by kernel_rfl) ?_ _
  refine NoPanic.normal ?_
  go_wp2_with fail
  go_ret
  exact ⟨rfl, O5.out⟩

set_option maxHeartbeats 2000000 in
theorem kt_main4 (s : ByteArray) (k x : Int) (w : World) (hs : s.size ≤ 2147483647) (hk : (Lit.int .i64 k).wf = true) (hx : (Lit.int .u8 x).wf = true) (hm : Int.tmod x 6 = 4) :
    Calls Tryd.prog 9 #[.agg #[.string s, .int .i64 k], .int .u8 x] w fun e w' => e = .returned (.bool true) ∧ Old w w' := by
  have F : Hid (decide (s.size ≤ 2147483647) = true) := by unfold Hid; simp; omega
  have C := Lib.hid (fun W => one9_takes 16 (by omega) s k W hs hk)
  unfold KeyS.v opk at C
  go_enter Tryd.func9, Tryd.ntmps9
  go_wp2_with (go_at_call 12; refine (fits_any s k _).mono ?_; rintro e w1 ⟨rfl, o1⟩; rw [F.out]
               have g1 : w1.heap[w.heap.size]? = some (.cells #[.string s, .int .i64 k] 23) := (o1.heap (by simp)).trans (at_new _ _ rfl)
               have f10 := cell_of_heap g1 0
               have f11 := cell_of_heap g1 1
               simp only [List.getElem?_toArray, List.getElem?_cons_zero, List.getElem?_cons_succ] at f10 f11
               have hlt := (Array.getElem?_eq_some_iff.1 g1).1
               have O1 := Lib.hid ((Old.alloc w _).trans o1); clear o1 g1)
  have O2 := Lib.hid (O1.out.trans (Old.drew w1))
  have c0' : w1.drew.cell? ⟨w.heap.size, 0, none⟩ = some (.string s) := f10
  have c1' : w1.drew.cell? ⟨w.heap.size, 1, none⟩ = some (.int .i64 k) := f11
  have n0 : ¬ w1.heap.size = w.heap.size := by omega
  refine wp_region_noPanic ?_
  refine wp_region_held_drew (S := fun W => W.cell? ⟨w.heap.size, 0, none⟩ = some (.string s) ∧ W.cell? ⟨w.heap.size, 1, none⟩ = some (.int .i64 k)) (by kernel_rfl) (by (try dsimp only); (first | exact ⟨c0', c1'⟩ | exact hHeld0 | exact ⟨c20, c21⟩ | (go_keep; done))) (fun hHeld0 => ?_)
  refine wpAnyH_take (i := 0) (v := ?_) rfl (by kernel_rfl) (by kernel_rfl) (by kernel_rfl) (fun _ _ _ h => h) (Or.inl ⟨by rfl, ?_⟩) (by assumption) ?_
  rotate_left
  · (intro w hSw; (try dsimp only at hSw); go_simp; try with_reducible rfl)
  try simp only [Act.put, List.getElem_toArray, List.getElem_cons_succ, List.getElem_cons_zero, List.setIfInBounds_toArray, List.set_cons_zero, List.set_cons_succ]
  refine wpAnyH_take (i := 2) (v := ?_) rfl (by kernel_rfl) (by kernel_rfl) (by kernel_rfl) (fun _ _ _ h => h) (Or.inl ⟨by rfl, ?_⟩) (by assumption) ?_
  rotate_left
  · (intro w hSw; (try dsimp only at hSw); go_simp; try with_reducible rfl)
  try simp only [Act.put, List.getElem_toArray, List.getElem_cons_succ, List.getElem_cons_zero, List.setIfInBounds_toArray, List.set_cons_zero, List.set_cons_succ]
  refine wpAnyH_take (i := 3) (v := ?_) rfl (by kernel_rfl) (by kernel_rfl) (by kernel_rfl) (fun _ _ _ h => h) (Or.inl ⟨by rfl, ?_⟩) (by assumption) ?_
  rotate_left
  · (intro w hSw; (try dsimp only at hSw); go_simp; try with_reducible rfl)
  try simp only [Act.put, List.getElem_toArray, List.getElem_cons_succ, List.getElem_cons_zero, List.setIfInBounds_toArray, List.set_cons_zero, List.set_cons_succ]
  refine wpAnyH_ready (rs := [1]) (by kernel_rfl) (by simp) ?_
  refine AllReadyH.cons rfl (fun K hK => ?_) AllReadyH.nil
  go_simp
  refine hK.out _ _ ?_ (fun hHeld1 => ?_)
  · (try dsimp only)
    (first | exact ⟨c0', c1'⟩ | exact hHeld0 | exact ⟨c20, c21⟩ | (go_keep; done))
  clear hK K hHeld0
  try simp only [Act.put, List.getElem_toArray, List.getElem_cons_succ, List.getElem_cons_zero, List.setIfInBounds_toArray, List.set_cons_zero, List.set_cons_succ]
  refine wpAnyH_take (i := 4) (v := ?_) rfl (by kernel_rfl) (by kernel_rfl) (by kernel_rfl) (fun _ _ _ h => h) (Or.inl ⟨by rfl, ?_⟩) (by assumption) ?_
  rotate_left
  · (intro w hSw; (try dsimp only at hSw); go_simp; try with_reducible rfl)
  try simp only [Act.put, List.getElem_toArray, List.getElem_cons_succ, List.getElem_cons_zero, List.setIfInBounds_toArray, List.set_cons_zero, List.set_cons_succ]
  refine wpAnyH_ready (rs := [5]) (by kernel_rfl) (by simp) ?_
  refine AllReadyH.cons rfl (fun K hK => ?_) AllReadyH.nil
  go_simp
  refine hK.out _ _ ?_ (fun hHeld2 => ?_)
  · (try dsimp only)
    (first | exact ⟨c0', c1'⟩ | exact hHeld1 | exact ⟨c20, c21⟩ | (go_keep; done))
  clear hK K hHeld1
  try simp only [Act.put, List.getElem_toArray, List.getElem_cons_succ, List.getElem_cons_zero, List.setIfInBounds_toArray, List.set_cons_zero, List.set_cons_succ]
  refine wpAnyH_take (i := 6) (v := ?_) rfl (by kernel_rfl) (by kernel_rfl) (by kernel_rfl) (fun _ _ _ h => h) (Or.inl ⟨by rfl, ?_⟩) (by assumption) ?_
  rotate_left
  · (intro w hSw; (try dsimp only at hSw); go_simp; try with_reducible rfl)
  try simp only [Act.put, List.getElem_toArray, List.getElem_cons_succ, List.getElem_cons_zero, List.setIfInBounds_toArray, List.set_cons_zero, List.set_cons_succ]
  refine wpAnyH_ready (rs := [7]) (by kernel_rfl) (by simp) ?_
  refine AllReadyH.cons rfl (fun K hK => ?_) AllReadyH.nil
  go_simp
  (first
      | (go_at_call 23; refine (C.out _).mono ?_; rintro e w5 ⟨rfl, q5⟩
         have hq : ∀ o : Obj, w1.drew.heap.size ≤ (w1.drew.alloc o).heap.size := fun o => (Old.alloc w1.drew o).size
         have c20 := (q5.cell (by simp; omega)).trans (((Old.alloc w1.drew _).cell hlt).trans c0')
         have c21 := (q5.cell (by simp; omega)).trans (((Old.alloc w1.drew _).cell hlt).trans c1')
         have O5 := Lib.hid ((O2.out.trans (Old.alloc _ _)).trans q5)
         clear q5))
  (try go_wp2_with fail)
  refine hK.out _ _ ?_ (fun hHeld3 => ?_)
  · (try dsimp only)
    (first | exact ⟨c0', c1'⟩ | exact hHeld2 | exact ⟨c20, c21⟩ | (go_keep; done))
  clear hK K hHeld2
  try simp only [Act.put, List.getElem_toArray, List.getElem_cons_succ, List.getElem_cons_zero, List.setIfInBounds_toArray, List.set_cons_zero, List.set_cons_succ]
  refine wpAnyH_take (i := 8) (v := ?_) rfl (by kernel_rfl) (by kernel_rfl) (by kernel_rfl) (fun _ _ _ h => h) (Or.inl ⟨by rfl, ?_⟩) (by assumption) ?_
  rotate_left
  · (intro w hSw; (try dsimp only at hSw); go_simp; try with_reducible rfl)
  try simp only [Act.put, List.getElem_toArray, List.getElem_cons_succ, List.getElem_cons_zero, List.setIfInBounds_toArray, List.set_cons_zero, List.set_cons_succ]
  refine wpAnyH_done (by kernel_rfl) ?_ _
  refine NoPanic.normal ?_
  go_wp2_with fail
  go_ret
  exact ⟨rfl, O5.out⟩

set_option maxHeartbeats 2000000 in
theorem kt_main5 (s : ByteArray) (k x : Int) (w : World) (hs : s.size ≤ 2147483647) (hk : (Lit.int .i64 k).wf = true) (hx : (Lit.int .u8 x).wf = true) (hm : Int.tmod x 6 = 5) :
    Calls Tryd.prog 9 #[.agg #[.string s, .int .i64 k], .int .u8 x] w fun e w' => e = .returned (.bool true) ∧ Old w w' := by
  have F : Hid (decide (s.size ≤ 2147483647) = true) := by unfold Hid; simp; omega
  have C := Lib.hid (fun W => one9_takes 13 (by omega) s k W hs hk)
  unfold KeyS.v opk at C
  go_enter Tryd.func9, Tryd.ntmps9
  go_wp2_with (go_at_call 12; refine (fits_any s k _).mono ?_; rintro e w1 ⟨rfl, o1⟩; rw [F.out]
               have g1 : w1.heap[w.heap.size]? = some (.cells #[.string s, .int .i64 k] 23) := (o1.heap (by simp)).trans (at_new _ _ rfl)
               have f10 := cell_of_heap g1 0
               have f11 := cell_of_heap g1 1
               simp only [List.getElem?_toArray, List.getElem?_cons_zero, List.getElem?_cons_succ] at f10 f11
               have hlt := (Array.getElem?_eq_some_iff.1 g1).1
               have O1 := Lib.hid ((Old.alloc w _).trans o1); clear o1 g1)
  have O2 := Lib.hid (O1.out.trans (Old.drew w1))
  have c0' : w1.drew.cell? ⟨w.heap.size, 0, none⟩ = some (.string s) := f10
  have c1' : w1.drew.cell? ⟨w.heap.size, 1, none⟩ = some (.int .i64 k) := f11
  have n0 : ¬ w1.heap.size = w.heap.size := by omega
  refine wp_region_noPanic ?_
  refine wp_region_held_drew (S := fun W => W.cell? ⟨w.heap.size, 0, none⟩ = some (.string s) ∧ W.cell? ⟨w.heap.size, 1, none⟩ = some (.int .i64 k)) (by kernel_rfl) (by (try dsimp only); (first | exact ⟨c0', c1'⟩ | exact hHeld0 | exact ⟨c20, c21⟩ | (go_keep; done))) (fun hHeld0 => ?_)
  refine wpAnyH_take (i := 0) (v := ?_) rfl (by kernel_rfl) (by kernel_rfl) (by kernel_rfl) (fun _ _ _ h => h) (Or.inl ⟨by rfl, ?_⟩) (by assumption) ?_
  rotate_left
  · (intro w hSw; (try dsimp only at hSw); go_simp; try with_reducible rfl)
  try simp only [Act.put, List.getElem_toArray, List.getElem_cons_succ, List.getElem_cons_zero, List.setIfInBounds_toArray, List.set_cons_zero, List.set_cons_succ]
  refine wpAnyH_take (i := 2) (v := ?_) rfl (by kernel_rfl) (by kernel_rfl) (by kernel_rfl) (fun _ _ _ h => h) (Or.inl ⟨by rfl, ?_⟩) (by assumption) ?_
  rotate_left
  · (intro w hSw; (try dsimp only at hSw); go_simp; try with_reducible rfl)
  try simp only [Act.put, List.getElem_toArray, List.getElem_cons_succ, List.getElem_cons_zero, List.setIfInBounds_toArray, List.set_cons_zero, List.set_cons_succ]
  refine wpAnyH_take (i := 3) (v := ?_) rfl (by kernel_rfl) (by kernel_rfl) (by kernel_rfl) (fun _ _ _ h => h) (Or.inl ⟨by rfl, ?_⟩) (by assumption) ?_
  rotate_left
  · (intro w hSw; (try dsimp only at hSw); go_simp; try with_reducible rfl)
  try simp only [Act.put, List.getElem_toArray, List.getElem_cons_succ, List.getElem_cons_zero, List.setIfInBounds_toArray, List.set_cons_zero, List.set_cons_succ]
  refine wpAnyH_ready (rs := [1]) (by kernel_rfl) (by simp) ?_
  refine AllReadyH.cons rfl (fun K hK => ?_) AllReadyH.nil
  go_simp
  refine hK.out _ _ ?_ (fun hHeld1 => ?_)
  · (try dsimp only)
    (first | exact ⟨c0', c1'⟩ | exact hHeld0 | exact ⟨c20, c21⟩ | (go_keep; done))
  clear hK K hHeld0
  try simp only [Act.put, List.getElem_toArray, List.getElem_cons_succ, List.getElem_cons_zero, List.setIfInBounds_toArray, List.set_cons_zero, List.set_cons_succ]
  refine wpAnyH_take (i := 4) (v := ?_) rfl (by kernel_rfl) (by kernel_rfl) (by kernel_rfl) (fun _ _ _ h => h) (Or.inl ⟨by rfl, ?_⟩) (by assumption) ?_
  rotate_left
  · (intro w hSw; (try dsimp only at hSw); go_simp; try with_reducible rfl)
  try simp only [Act.put, List.getElem_toArray, List.getElem_cons_succ, List.getElem_cons_zero, List.setIfInBounds_toArray, List.set_cons_zero, List.set_cons_succ]
  refine wpAnyH_ready (rs := [5]) (by kernel_rfl) (by simp) ?_
  refine AllReadyH.cons rfl (fun K hK => ?_) AllReadyH.nil
  go_simp
  refine hK.out _ _ ?_ (fun hHeld2 => ?_)
  · (try dsimp only)
    (first | exact ⟨c0', c1'⟩ | exact hHeld1 | exact ⟨c20, c21⟩ | (go_keep; done))
  clear hK K hHeld1
  try simp only [Act.put, List.getElem_toArray, List.getElem_cons_succ, List.getElem_cons_zero, List.setIfInBounds_toArray, List.set_cons_zero, List.set_cons_succ]
  refine wpAnyH_take (i := 6) (v := ?_) rfl (by kernel_rfl) (by kernel_rfl) (by kernel_rfl) (fun _ _ _ h => h) (Or.inl ⟨by rfl, ?_⟩) (by assumption) ?_
  rotate_left
  · (intro w hSw; (try dsimp only at hSw); go_simp; try with_reducible rfl)
  try simp only [Act.put, List.getElem_toArray, List.getElem_cons_succ, List.getElem_cons_zero, List.setIfInBounds_toArray, List.set_cons_zero, List.set_cons_succ]
  refine wpAnyH_ready (rs := [7]) (by kernel_rfl) (by simp) ?_
  refine AllReadyH.cons rfl (fun K hK => ?_) AllReadyH.nil
  go_simp
  (first
      | (go_at_call 23; refine (C.out _).mono ?_; rintro e w5 ⟨rfl, q5⟩
         have hq : ∀ o : Obj, w1.drew.heap.size ≤ (w1.drew.alloc o).heap.size := fun o => (Old.alloc w1.drew o).size
         have c20 := (q5.cell (by simp; omega)).trans (((Old.alloc w1.drew _).cell hlt).trans c0')
         have c21 := (q5.cell (by simp; omega)).trans (((Old.alloc w1.drew _).cell hlt).trans c1')
         have O5 := Lib.hid ((O2.out.trans (Old.alloc _ _)).trans q5)
         clear q5))
  (try go_wp2_with fail)
  refine hK.out _ _ ?_ (fun hHeld3 => ?_)
  · (try dsimp only)
    (first | exact ⟨c0', c1'⟩ | exact hHeld2 | exact ⟨c20, c21⟩ | (go_keep; done))
  clear hK K hHeld2
  try simp only [Act.put, List.getElem_toArray, List.getElem_cons_succ, List.getElem_cons_zero, List.setIfInBounds_toArray, List.set_cons_zero, List.set_cons_succ]
  refine wpAnyH_take (i := 8) (v := ?_) rfl (by kernel_rfl) (by kernel_rfl) (by kernel_rfl) (fun _ _ _ h => h) (Or.inl ⟨by rfl, ?_⟩) (by assumption) ?_
  rotate_left
  · (intro w hSw; (try dsimp only at hSw); go_simp; try with_reducible rfl)
  try simp only [Act.put, List.getElem_toArray, List.getElem_cons_succ, List.getElem_cons_zero, List.setIfInBounds_toArray, List.set_cons_zero, List.set_cons_succ]
  refine wpAnyH_done (by kernel_rfl) ?_ _
  refine NoPanic.normal ?_
  go_wp2_with fail
  go_ret
  exact ⟨rfl, O5.out⟩

theorem kt_walk (s : ByteArray) (k x : Int) (w : World) (hs : s.size ≤ 9223372036854775807) (hk : (Lit.int .i64 k).wf = true) (hx : (Lit.int .u8 x).wf = true) :
    Calls Tryd.prog 9 #[.agg #[.string s, .int .i64 k], .int .u8 x] w fun e w' => e = .returned (.bool true) ∧ Below w.heap.size w w' := by
  by_cases h1 : 2147483647 < s.size
  · have F : Hid (decide (s.size ≤ 2147483647) = false) := by unfold Hid; simp; omega
    go_enter Tryd.func9, Tryd.ntmps9
    go_wp2_with (go_at_call 12; refine (fits_any s k _).mono ?_; rintro e w1 ⟨rfl, o1⟩; rw [F.out]; have O1 := Lib.hid ((Old.alloc w _).trans o1); clear o1)
    go_ret
    exact ⟨rfl, O1.out⟩
  · have hxb : 0 ≤ x := (bounds_u8 hx).1
    have hmod : Int.tmod x 6 = 0 ∨ Int.tmod x 6 = 1 ∨ Int.tmod x 6 = 2 ∨ Int.tmod x 6 = 3 ∨ Int.tmod x 6 = 4 ∨ Int.tmod x 6 = 5 := by rw [Int.tmod_eq_emod_of_nonneg hxb]; omega
    rcases hmod with hm | hm | hm | hm | hm | hm
    · exact kt_main0 s k x w (by omega) hk hx hm
    · exact kt_main1 s k x w (by omega) hk hx hm
    · exact kt_main2 s k x w (by omega) hk hx hm
    · exact kt_main3 s k x w (by omega) hk hx hm
    · exact kt_main4 s k x w (by omega) hk hx hm
    · exact kt_main5 s k x w (by omega) hk hx hm
end Go.Proofs.YtlfmmmbafkelhaaDoor
