/- FnDeleteYank: the walk. -/
import Derived.Test.YtlfmmmbafkelhaaDoorAfterN
import Derived.Test.YtlfmmmbafkelhaaDoorDispY
import Derived.Test.YtlfmmmbafkelhaaDoorDelW
namespace Go.Proofs.YtlfmmmbafkelhaaDoor
open Go.RowKit
set_option linter.unusedVariables false
set_option linter.unusedSimpArgs false
set_option maxRecDepth 100000

theorem dy_after (lb : Nat) (s : ByteArray) (k : Nat) (w : World) (ha : asc s) (hs : s.size ≤ 100) (hk : k < s.size)
    (hc : w.heap[lb]? = some (.cells #[.int .i64 6, .string { data := #[] }, .int .i64 0, .bool false, .bool false, .int .i64 17, .string { data := #[] }, .int .i64 0, .bool false, .bool false] 28)) :
    Calls Tryd.prog 14 #[.agg #[.string s, .int .i64 k], .slice (some ⟨lb, 0, none⟩) 2 2] w fun e w' => e = .returned (.tuple #[.agg #[.string s, .int .i64 ((k : Int) + 1)], .bool true]) ∧ Old w w' := by
  have hr : (runes s).length = s.size := by rw [runes_asc ha, length_nums]
  have e1 : ∀ T, delSt (st1 s k T) = { l := cutAt (runes s) k (k + 1), at_ := k, kl := ((runes s).drop k).take 1, t := T } := fun T => if_pos (show k < (runes s).length by omega)
  have e2 : ∀ T, delB (st1 s k T) = true := fun T => by
    have : k < (runes s).length := by omega
    simp [delB, st1, this]
  have hcut : (cutAt (runes s) k (k + 1)).length ≤ 100 := by unfold cutAt; rw [List.length_append, List.length_take, List.length_drop]; omega
  have hone : (((runes s).drop k).take 1).length = 1 := by rw [List.length_take, List.length_drop]; omega
  have htk : ((runes s).take k).length = k := by rw [List.length_take]; omega
  have hl : ∀ T, (yankSt (delSt (st1 s k T))).l = runes s := fun T => by
    rw [e1]
    show (cutAt (runes s) k (k + 1)).take k ++ (((runes s).drop k).take 1 ++ (cutAt (runes s) k (k + 1)).drop k) = runes s
    unfold cutAt
    rw [List.take_left' htk, List.drop_left' htk]
    rw [show (runes s).drop (k + 1) = ((runes s).drop k).drop 1 by rw [List.drop_drop], List.take_append_drop, List.take_append_drop]
  have hat : ∀ T, ((yankSt (delSt (st1 s k T))).at_ : Int) = (k : Int) + 1 := fun T => by
    rw [e1]
    show ((k + (((runes s).drop k).take 1).length : Nat) : Int) = (k : Int) + 1
    rw [hone]; rfl
  refine (after_two lb (opk 6) (opk 17) (fun T => delSt (st1 s k T)) (fun T => yankSt (delSt (st1 s k T))) 1 (-1) s k w hc (by omega) (by omega) (by omega)
    (fun T p b w h => by have := keyed_k6 p b _ ⟨#[]⟩ 0 false false w h; rw [e2] at this; exact this)
    (fun T p b w h => keyed_k17 p b _ _ _ _ _ w h (by rw [e1]; show (cutAt (runes s) k (k + 1)).length + (((runes s).drop k).take 1).length ≤ 1000; omega)) (fun T => by rw [e1]) (fun T => by rw [e1]; rfl)).mono ?_
  rintro e w' ⟨T, rfl, o⟩
  refine ⟨?_, o⟩
  rw [hl, hat, runes_asc ha, runesBytes_nums ha]

set_option maxHeartbeats 1000000 in
theorem dy_main (s : ByteArray) (k : Nat) (w : World) (ha : asc s) (hs : s.size ≤ 100) (hk : k < s.size) (h9 : ln9 s k = true) (hkw : (Lit.int .i64 (k : Int)).wf = true) :
    Calls Tryd.prog 3 #[.agg #[.string s, .int .i64 k]] w fun e w' => e = .returned (.bool true) ∧ Old w w' := by
  have H9 := Lib.hid h9
  have F : Hid (decide (s.size ≤ 2147483647) = true) := by unfold Hid; simp; omega
  have KC := Lib.hid (fun lb W => dy_after lb s k W ha hs hk)
  have d1 : ((k : Int) == (s.size : Int)) = false := by simp; omega
  have d2 : decide ((100 : Int) < s.size) = false := by simp; omega
  have e1 : IntKind.i64.wrap ((k : Int) + 1) = (k : Int) + 1 := IntWalk.i64_in _ (by omega)
  clear ha h9
  go_enter Tryd.func3, Tryd.ntmps3
  go_wp2_with (first
    | (go_at_call 12; refine (fits_any s k _).mono ?_; rintro e w1 ⟨rfl, o1⟩; rw [F.out]
       have g1 : w1.heap[w.heap.size]? = some (.cells #[.string s, .int .i64 k] 23) := (o1.heap (by simp)).trans (at_new _ _ rfl)
       have f10 := cell_of_heap g1 0
       have f11 := cell_of_heap g1 1
       simp only [List.getElem?_toArray, List.getElem?_cons_zero, List.getElem?_cons_succ] at f10 f11
       have G1 := Lib.hid g1
       have O1 := Lib.hid ((Old.alloc w _).trans o1); clear o1 g1)
    | (go_at_call 13; refine (line9_any s k _ (by omega) hkw).mono ?_; rintro e w2 ⟨rfl, o2⟩; rw [H9.out]
       have g2 := (o2.heap (Array.getElem?_eq_some_iff.1 G1.out).1).trans G1.out
       have h20 : w2.cell? ⟨w.heap.size, 0, none⟩ = some (.string s) := cell_of_heap g2 0
       have h21 : w2.cell? ⟨w.heap.size, 1, none⟩ = some (.int .i64 k) := cell_of_heap g2 1
       have G2 := Lib.hid g2
       have O2 := Lib.hid (O1.out.trans o2); clear o2 g2 f10 f11 G1 O1)
    | (go_at_call 14; refine (KC.out _ _ (at_new _ _ (by simp))).mono ?_; rintro e w3 ⟨rfl, o3⟩
       have g3 := (o3.heap (by simp; exact Nat.lt_succ_of_lt (Array.getElem?_eq_some_iff.1 G2.out).1)).trans (at_alloc G2.out)
       have f30 : ∀ o, (w3.alloc o).cell? ⟨w.heap.size, 0, none⟩ = some (.string s) := fun o => cell_of_heap (at_alloc g3) 0
       have f31 : ∀ o, (w3.alloc o).cell? ⟨w.heap.size, 1, none⟩ = some (.int .i64 k) := fun o => cell_of_heap (at_alloc g3) 1
       have O3 := Lib.hid ((O2.out.trans (Old.alloc _ _)).trans o3)
       clear KC o3 g3 G2 O2 h20 h21))
  go_ret
  exact ⟨rfl, O3.out.trans (Old.alloc _ _)⟩

theorem dy_guard1 (s : ByteArray) (k : Int) (w : World) (hk : (Lit.int .i64 k).wf = true) (hs : s.size ≤ 9223372036854775807) (h : ln9 s k = false) :
    Calls Tryd.prog 3 #[.agg #[.string s, .int .i64 k]] w fun e w' => e = .returned (.bool true) ∧ Old w w' := by
  have H := Lib.hid h
  clear h
  by_cases h1 : 2147483647 < s.size
  · have F : Hid (decide (s.size ≤ 2147483647) = false) := by unfold Hid; simp; omega
    go_enter Tryd.func3, Tryd.ntmps3
    go_wp2_with (go_at_call 12; refine (fits_any s k _).mono ?_; rintro e w1 ⟨rfl, o1⟩; rw [F.out]; have O1 := Lib.hid ((Old.alloc w _).trans o1); clear o1)
    go_ret
    exact ⟨rfl, O1.out⟩
  have F : Hid (decide (s.size ≤ 2147483647) = true) := by unfold Hid; simp; omega
  go_enter Tryd.func3, Tryd.ntmps3
  go_wp2_with (first
    | (go_at_call 12; refine (fits_any s k _).mono ?_; rintro e w1 ⟨rfl, o1⟩; rw [F.out]
       have g10 : w1.cell? ⟨w.heap.size, 0, none⟩ = some (.string s) := (o1.cell (by simp)).trans ((World.cell?_alloc_mark w #[.string s, .int .i64 k] _ (0, 0) 0).trans rfl)
       have g11 : w1.cell? ⟨w.heap.size, 1, none⟩ = some (.int .i64 k) := (o1.cell (by simp)).trans ((World.cell?_alloc_mark w #[.string s, .int .i64 k] _ (0, 0) 1).trans rfl)
       have O1 := Lib.hid ((Old.alloc w _).trans o1); clear o1)
    | (go_at_call 13; refine (line9_any s k _ (by omega) hk).mono ?_; rintro e w2 ⟨rfl, o2⟩; rw [H.out]
       have O2 := Lib.hid (O1.out.trans o2); clear o2))
  go_ret
  exact ⟨rfl, O2.out⟩

theorem dy_guard2 (s : ByteArray) (k : Nat) (w : World) (hkw : (Lit.int .i64 (k : Int)).wf = true) (hs : s.size ≤ 300) (h9 : ln9 s k = true) (h : 100 < s.size) :
    Calls Tryd.prog 3 #[.agg #[.string s, .int .i64 k]] w fun e w' => e = .returned (.bool true) ∧ Old w w' := by
  have H9 := Lib.hid h9
  have F : Hid (decide (s.size ≤ 2147483647) = true) := by unfold Hid; simp; omega
  have d2 : decide ((100 : Int) < s.size) = true := by simp; omega
  clear h9
  go_enter Tryd.func3, Tryd.ntmps3
  go_wp2_with (first
    | (go_at_call 12; refine (fits_any s k _).mono ?_; rintro e w1 ⟨rfl, o1⟩; rw [F.out]
       have g1 : w1.heap[w.heap.size]? = some (.cells #[.string s, .int .i64 k] 23) := (o1.heap (by simp)).trans (at_new _ _ rfl)
       have f10 := cell_of_heap g1 0
       have f11 := cell_of_heap g1 1
       simp only [List.getElem?_toArray, List.getElem?_cons_zero, List.getElem?_cons_succ] at f10 f11
       have G1 := Lib.hid g1
       have O1 := Lib.hid ((Old.alloc w _).trans o1); clear o1 g1)
    | (go_at_call 13; refine (line9_any s k _ (by omega) hkw).mono ?_; rintro e w2 ⟨rfl, o2⟩; rw [H9.out]
       have g2 := (o2.heap (Array.getElem?_eq_some_iff.1 G1.out).1).trans G1.out
       have h20 : w2.cell? ⟨w.heap.size, 0, none⟩ = some (.string s) := cell_of_heap g2 0
       have h21 : w2.cell? ⟨w.heap.size, 1, none⟩ = some (.int .i64 k) := cell_of_heap g2 1
       have f20 : ∀ o, (w2.alloc o).cell? ⟨w.heap.size, 0, none⟩ = some (.string s) := fun o => cell_of_heap (at_alloc g2) 0
       have f21 : ∀ o, (w2.alloc o).cell? ⟨w.heap.size, 1, none⟩ = some (.int .i64 k) := fun o => cell_of_heap (at_alloc g2) 1
       have O2 := Lib.hid (O1.out.trans o2); clear o2 g2 f10 f11 G1 O1))
  go_ret
  exact ⟨rfl, O2.out⟩

theorem dy_guard4 (s : ByteArray) (k : Nat) (w : World) (hs : s.size ≤ 100) (hk : k = s.size) (h9 : ln9 s k = true) (hkw : (Lit.int .i64 (k : Int)).wf = true) :
    Calls Tryd.prog 3 #[.agg #[.string s, .int .i64 k]] w fun e w' => e = .returned (.bool true) ∧ Old w w' := by
  have H9 := Lib.hid h9
  have F : Hid (decide (s.size ≤ 2147483647) = true) := by unfold Hid; simp; omega
  have d1 : ((k : Int) == (s.size : Int)) = true := by simp [hk]
  have d2 : decide ((100 : Int) < s.size) = false := by simp; omega
  clear h9 hk
  go_enter Tryd.func3, Tryd.ntmps3
  go_wp2_with (first
    | (go_at_call 12; refine (fits_any s k _).mono ?_; rintro e w1 ⟨rfl, o1⟩; rw [F.out]
       have g1 : w1.heap[w.heap.size]? = some (.cells #[.string s, .int .i64 k] 23) := (o1.heap (by simp)).trans (at_new _ _ rfl)
       have f10 := cell_of_heap g1 0
       have f11 := cell_of_heap g1 1
       simp only [List.getElem?_toArray, List.getElem?_cons_zero, List.getElem?_cons_succ] at f10 f11
       have G1 := Lib.hid g1
       have O1 := Lib.hid ((Old.alloc w _).trans o1); clear o1 g1)
    | (go_at_call 13; refine (line9_any s k _ (by omega) hkw).mono ?_; rintro e w2 ⟨rfl, o2⟩; rw [H9.out]
       have g2 := (o2.heap (Array.getElem?_eq_some_iff.1 G1.out).1).trans G1.out
       have h20 : w2.cell? ⟨w.heap.size, 0, none⟩ = some (.string s) := cell_of_heap g2 0
       have h21 : w2.cell? ⟨w.heap.size, 1, none⟩ = some (.int .i64 k) := cell_of_heap g2 1
       have f20 : ∀ o, (w2.alloc o).cell? ⟨w.heap.size, 0, none⟩ = some (.string s) := fun o => cell_of_heap (at_alloc g2) 0
       have f21 : ∀ o, (w2.alloc o).cell? ⟨w.heap.size, 1, none⟩ = some (.int .i64 k) := fun o => cell_of_heap (at_alloc g2) 1
       have O2 := Lib.hid (O1.out.trans o2); clear o2 g2 f10 f11 G1 O1))
  go_ret
  exact ⟨rfl, O2.out⟩

theorem dy_walk (s : ByteArray) (k : Int) (w : World) (hs : s.size ≤ 9223372036854775807) (hk : (Lit.int .i64 k).wf = true) :
    Calls Tryd.prog 3 #[.agg #[.string s, .int .i64 k]] w fun e w' => e = .returned (.bool true) ∧ Below w.heap.size w w' := by
  cases h : ln9 s k
  · exact dy_guard1 s k w hk hs h
  · have hq : asc9 s = true ∧ 0 ≤ k ∧ k ≤ s.size := by have := h; unfold ln9 at this; simpa using this
    have ha := asc9_iff.1 hq.1
    obtain ⟨a, rfl⟩ : ∃ a : Nat, k = a := ⟨k.toNat, by omega⟩
    by_cases h1 : 100 < s.size
    · exact dy_guard2 s a w hk ha.2 h h1
    by_cases h3 : a = s.size
    · exact dy_guard4 s a w (by omega) h3 h hk
    · exact dy_main s a w ha.1 (by omega) (by omega) h hk
end Go.Proofs.YtlfmmmbafkelhaaDoor
