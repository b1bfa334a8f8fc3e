/- FnKillYank: the walk. -/
import Derived.Test.YtlfmmmbafkelhaaDoorLawKillHalves
import Derived.Test.YtlfmmmbafkelhaaDoorDispY
import Derived.OpenShut
namespace Go.Proofs.YtlfmmmbafkelhaaDoor
open Go.RowKit
set_option linter.unusedVariables false
set_option linter.unusedSimpArgs false
set_option maxRecDepth 100000

/-- The line is as it was behind a step that takes out and Yank, the cursor at a. -/
theorem two_yank (lb : Nat) (op : Int) (S1 : Nat → St) (a : Nat) (s : ByteArray) (k : Nat) (w : World) (ha : asc s) (hs : s.size ≤ 100) (hk : k ≤ s.size)
    (hc : w.heap[lb]? = some (.cells #[.int .i64 op, .string { data := #[] }, .int .i64 0, .bool false, .bool false, .int .i64 17, .string { data := #[] }, .int .i64 0, .bool false, .bool false] 28))
    (h1 : ∀ T p b w, RB w p b (st1 s k T) → Keyed p b (opk op) (S1 T) (-1) w) (ht : ∀ T, (S1 T).t = T) (hn : ∀ T, (S1 T).l.length + (S1 T).kl.length ≤ 1000) (hl : ∀ T, (yankSt (S1 T)).l = runes s) (hat : ∀ T, (yankSt (S1 T)).at_ = a) :
    Calls Tryd.prog 14 #[.agg #[.string s, .int .i64 k], .slice (some ⟨lb, 0, none⟩) 2 2] w fun e w' => e = .returned (.tuple #[.agg #[.string s, .int .i64 a], .bool true]) ∧ Old w w' := by
  have hr : (runes s).length = s.size := by rw [runes_asc ha, length_nums]
  refine (after_two lb (opk op) (opk 17) S1 (fun T => yankSt (S1 T)) (-1) (-1) s k w hc (by omega) (by omega) (by omega) h1 (fun T p b w h => keyed_k17 p b _ _ _ _ _ w h (hn T)) ht ht).mono ?_
  rintro e w' ⟨T, rfl, o⟩
  refine ⟨?_, o⟩
  rw [hl, hat, runes_asc ha, runesBytes_nums ha]
theorem ky_kill (lb : Nat) (s : ByteArray) (k : Nat) (w : World) (ha : asc s) (hs : s.size ≤ 100) (hk : k ≤ s.size)
    (hc : w.heap[lb]? = some (.cells #[.int .i64 15, .string { data := #[] }, .int .i64 0, .bool false, .bool false, .int .i64 17, .string { data := #[] }, .int .i64 0, .bool false, .bool false] 28)) :
    Calls Tryd.prog 14 #[.agg #[.string s, .int .i64 k], .slice (some ⟨lb, 0, none⟩) 2 2] w fun e w' => e = .returned (.tuple #[.agg #[.string s, .int .i64 s.size], .bool true]) ∧ Old w w' := by
  have hr : (runes s).length = s.size := by rw [runes_asc ha, length_nums]
  refine two_yank lb 15 (fun T => { st1 s k T with l := (runes s).take k, kl := (runes s).drop k }) s.size s k w ha hs hk hc (fun T p b w h => keyed_k15 p b _ _ _ _ _ w h) (fun T => rfl) ?_ ?_ ?_
  · intro T; show ((runes s).take k).length + ((runes s).drop k).length ≤ 1000; rw [List.length_take, List.length_drop]; omega
  · intro T; show ((runes s).take k).take k ++ ((runes s).drop k ++ ((runes s).take k).drop k) = runes s
    have e : ((runes s).take k).drop k = [] := List.drop_eq_nil_of_le (by rw [List.length_take]; omega)
    rw [List.take_take, Nat.min_self, e, List.append_nil, List.take_append_drop]
  · intro T; show k + ((runes s).drop k).length = s.size; rw [List.length_drop]; omega
theorem ky_front (lb : Nat) (s : ByteArray) (k : Nat) (w : World) (ha : asc s) (hs : s.size ≤ 100) (hk : k ≤ s.size) (h0 : k ≠ 0)
    (hc : w.heap[lb]? = some (.cells #[.int .i64 16, .string { data := #[] }, .int .i64 0, .bool false, .bool false, .int .i64 17, .string { data := #[] }, .int .i64 0, .bool false, .bool false] 28)) :
    Calls Tryd.prog 14 #[.agg #[.string s, .int .i64 k], .slice (some ⟨lb, 0, none⟩) 2 2] w fun e w' => e = .returned (.tuple #[.agg #[.string s, .int .i64 k], .bool true]) ∧ Old w w' := by
  have hr : (runes s).length = s.size := by rw [runes_asc ha, length_nums]
  have e1 : ∀ T, kfSt (st1 s k T) = { st1 s k T with l := (runes s).drop k, at_ := 0, kl := (runes s).take k } := fun T => if_neg (show ¬ (st1 s k T).at_ = 0 from h0)
  refine two_yank lb 16 (fun T => kfSt (st1 s k T)) k s k w ha hs hk hc (fun T p b w h => keyed_k16 p b _ _ _ _ _ w h) (fun T => by rw [e1]; rfl) ?_ ?_ ?_
  · intro T; rw [e1]; show ((runes s).drop k).length + ((runes s).take k).length ≤ 1000; rw [List.length_take, List.length_drop]; omega
  · intro T; rw [e1]; show ((runes s).drop k).take 0 ++ ((runes s).take k ++ ((runes s).drop k).drop 0) = runes s
    rw [List.take_zero, List.drop_zero, List.nil_append, List.take_append_drop]
  · intro T; rw [e1]; show 0 + ((runes s).take k).length = k; rw [List.length_take]; omega
theorem ky_erase (lb : Nat) (s : ByteArray) (k : Nat) (w : World) (ha : asc s) (hs : s.size ≤ 100) (hk : k ≤ s.size)
    (hc : w.heap[lb]? = some (.cells #[.int .i64 9, .string { data := #[] }, .int .i64 0, .bool false, .bool false, .int .i64 17, .string { data := #[] }, .int .i64 0, .bool false, .bool false] 28)) :
    Calls Tryd.prog 14 #[.agg #[.string s, .int .i64 k], .slice (some ⟨lb, 0, none⟩) 2 2] w fun e w' => e = .returned (.tuple #[.agg #[.string s, .int .i64 s.size], .bool true]) ∧ Old w w' := by
  have hr : (runes s).length = s.size := by rw [runes_asc ha, length_nums]
  refine two_yank lb 9 (fun T => { st1 s k T with l := [], at_ := 0, kl := runes s }) s.size s k w ha hs hk hc (fun T p b w h => keyed_k9 p b _ _ _ _ _ w h) (fun T => rfl) ?_ ?_ ?_
  · intro T; show ([] : List Int).length + (runes s).length ≤ 1000; simp; omega
  · intro T; show ([] : List Int).take 0 ++ (runes s ++ ([] : List Int).drop 0) = runes s; simp
  · intro T; show 0 + (runes s).length = s.size; omega

theorem not_empty_ky {u : ByteArray} (h0 : u.size ≠ 0) : u.toList.isEmpty = false := by
  rw [ByteArray.toList_eq]
  cases h : u.data.toList with
  | nil =>
    have h3 : u.data.toList.length = u.size := Array.length_toList
    rw [h] at h3
    simp only [List.length_nil] at h3
    omega
  | cons x l => rfl

set_option maxHeartbeats 1000000 in
theorem ky_main0 (s : ByteArray) (k : Nat) (x : Int) (w : World) (hx : (Lit.int .u8 x).wf = true) (hm : Int.tmod x 3 = 0) (ha : asc s) (hs : s.size ≤ 100) (hs0 : s.size ≠ 0) (hk : k < s.size) (h9 : ln9 s k = true) (hkw : (Lit.int .i64 (k : Int)).wf = true) :
    Calls Tryd.prog 6 #[.agg #[.string s, .int .i64 k], .int .u8 x] w fun e w' => e = .returned (.bool true) ∧ Old w w' := by
  have H9 := Lib.hid h9
  have F : Hid (decide (s.size ≤ 2147483647) = true) := by unfold Hid; simp; omega
  have KC := Lib.hid (fun lb W => ky_kill lb s k W ha hs (by omega))
  have d1 : ((k : Int) == (s.size : Int)) = false := by simp; omega
  have d2 : decide ((100 : Int) < s.size) = false := by simp; omega
  have d3 := not_empty_ky hs0
  clear ha h9
  go_enter Tryd.func6, Tryd.ntmps6
  go_wp2_with (first
    | (go_at_call 12; refine (fits_any s k _).mono ?_; rintro e w1 ⟨rfl, o1⟩; rw [F.out]
       have g1 : w1.heap[w.heap.size]? = some (.cells #[.string s, .int .i64 k] 23) := (o1.heap (by simp)).trans (at_new _ _ rfl)
       have f10 := cell_of_heap g1 0
       have f11 := cell_of_heap g1 1
       simp only [List.getElem?_toArray, List.getElem?_cons_zero, List.getElem?_cons_succ] at f10 f11
       have G1 := Lib.hid g1
       have O1 := Lib.hid ((Old.alloc w _).trans o1); clear o1 g1)
    | (go_at_call 13; refine (line9_any s k _ (by omega) hkw).mono ?_; rintro e w2 ⟨rfl, o2⟩; rw [H9.out]
       have g2 := (o2.heap (Array.getElem?_eq_some_iff.1 G1.out).1).trans G1.out
       have h20 : w2.cell? ⟨w.heap.size, 0, none⟩ = some (.string s) := cell_of_heap g2 0
       have h21 : w2.cell? ⟨w.heap.size, 1, none⟩ = some (.int .i64 k) := cell_of_heap g2 1
       have f20 : ∀ o, (w2.alloc o).cell? ⟨w.heap.size, 0, none⟩ = some (.string s) := fun o => cell_of_heap (at_alloc g2) 0
       have f21 : ∀ o, (w2.alloc o).cell? ⟨w.heap.size, 1, none⟩ = some (.int .i64 k) := fun o => cell_of_heap (at_alloc g2) 1
       have i20 : ∀ o q, ((w2.alloc o).alloc q).cell? ⟨w.heap.size, 0, none⟩ = some (.string s) := fun o q => cell_of_heap (at_alloc (at_alloc g2)) 0
       have i21 : ∀ o q, ((w2.alloc o).alloc q).cell? ⟨w.heap.size, 1, none⟩ = some (.int .i64 k) := fun o q => cell_of_heap (at_alloc (at_alloc g2)) 1
       have G2 := Lib.hid g2
       have O2 := Lib.hid (O1.out.trans o2); clear o2 g2 f10 f11 G1 O1)
    | (go_at_call 14; refine (KC.out _ _ (at_new _ _ (by simp))).mono ?_; rintro e w3 ⟨rfl, o3⟩
       have g3 := (o3.heap (by simp <;> omega)).trans (at_alloc (at_new (w2.alloc (.cells #[.int .i64 15, .int .i64 16, .int .i64 9] 3)) (.cells #[.string s, .int .i64 s.size] 23) (k := w2.heap.size + 1) (by simp)))
       have f30 : ∀ o, (w3.alloc o).cell? ⟨w2.heap.size + 1, 0, none⟩ = some (.string s) := fun o => cell_of_heap (at_alloc g3) 0
       have f31 : ∀ o, (w3.alloc o).cell? ⟨w2.heap.size + 1, 1, none⟩ = some (.int .i64 s.size) := fun o => cell_of_heap (at_alloc g3) 1
       have O3 := Lib.hid ((((O2.out.trans (Old.alloc _ _)).trans (Old.alloc _ _)).trans (Old.alloc _ _)).trans o3)
       clear KC o3 g3 G2 O2 f20 f21 h20 h21 i20 i21))
  go_ret
  exact ⟨rfl, O3.out.trans (Old.alloc _ _)⟩

set_option maxHeartbeats 1000000 in
theorem ky_main1 (s : ByteArray) (k : Nat) (x : Int) (w : World) (hx : (Lit.int .u8 x).wf = true) (hm : Int.tmod x 3 = 1) (ha : asc s) (hs : s.size ≤ 100) (hs0 : s.size ≠ 0) (hk : k ≤ s.size) (hk0 : k ≠ 0) (h9 : ln9 s k = true) (hkw : (Lit.int .i64 (k : Int)).wf = true) :
    Calls Tryd.prog 6 #[.agg #[.string s, .int .i64 k], .int .u8 x] w fun e w' => e = .returned (.bool true) ∧ Old w w' := by
  have H9 := Lib.hid h9
  have F : Hid (decide (s.size ≤ 2147483647) = true) := by unfold Hid; simp; omega
  have KC := Lib.hid (fun lb W => ky_front lb s k W ha hs hk hk0)
  have d1 : ((k : Int) == 0) = false := by simp; omega
  have d2 : decide ((100 : Int) < s.size) = false := by simp; omega
  have d3 := not_empty_ky hs0
  clear ha h9
  go_enter Tryd.func6, Tryd.ntmps6
  go_wp2_with (first
    | (go_at_call 12; refine (fits_any s k _).mono ?_; rintro e w1 ⟨rfl, o1⟩; rw [F.out]
       have g1 : w1.heap[w.heap.size]? = some (.cells #[.string s, .int .i64 k] 23) := (o1.heap (by simp)).trans (at_new _ _ rfl)
       have f10 := cell_of_heap g1 0
       have f11 := cell_of_heap g1 1
       simp only [List.getElem?_toArray, List.getElem?_cons_zero, List.getElem?_cons_succ] at f10 f11
       have G1 := Lib.hid g1
       have O1 := Lib.hid ((Old.alloc w _).trans o1); clear o1 g1)
    | (go_at_call 13; refine (line9_any s k _ (by omega) hkw).mono ?_; rintro e w2 ⟨rfl, o2⟩; rw [H9.out]
       have g2 := (o2.heap (Array.getElem?_eq_some_iff.1 G1.out).1).trans G1.out
       have h20 : w2.cell? ⟨w.heap.size, 0, none⟩ = some (.string s) := cell_of_heap g2 0
       have h21 : w2.cell? ⟨w.heap.size, 1, none⟩ = some (.int .i64 k) := cell_of_heap g2 1
       have f20 : ∀ o, (w2.alloc o).cell? ⟨w.heap.size, 0, none⟩ = some (.string s) := fun o => cell_of_heap (at_alloc g2) 0
       have f21 : ∀ o, (w2.alloc o).cell? ⟨w.heap.size, 1, none⟩ = some (.int .i64 k) := fun o => cell_of_heap (at_alloc g2) 1
       have i20 : ∀ o q, ((w2.alloc o).alloc q).cell? ⟨w.heap.size, 0, none⟩ = some (.string s) := fun o q => cell_of_heap (at_alloc (at_alloc g2)) 0
       have i21 : ∀ o q, ((w2.alloc o).alloc q).cell? ⟨w.heap.size, 1, none⟩ = some (.int .i64 k) := fun o q => cell_of_heap (at_alloc (at_alloc g2)) 1
       have G2 := Lib.hid g2
       have O2 := Lib.hid (O1.out.trans o2); clear o2 g2 f10 f11 G1 O1)
    | (go_at_call 14; refine (KC.out _ _ (at_new _ _ (by simp))).mono ?_; rintro e w3 ⟨rfl, o3⟩
       have g3 := (o3.heap (by simp <;> omega)).trans (at_alloc (at_new (w2.alloc (.cells #[.int .i64 15, .int .i64 16, .int .i64 9] 3)) (.cells #[.string s, .int .i64 k] 23) (k := w2.heap.size + 1) (by simp)))
       have f30 : ∀ o, (w3.alloc o).cell? ⟨w2.heap.size + 1, 0, none⟩ = some (.string s) := fun o => cell_of_heap (at_alloc g3) 0
       have f31 : ∀ o, (w3.alloc o).cell? ⟨w2.heap.size + 1, 1, none⟩ = some (.int .i64 k) := fun o => cell_of_heap (at_alloc g3) 1
       have O3 := Lib.hid ((((O2.out.trans (Old.alloc _ _)).trans (Old.alloc _ _)).trans (Old.alloc _ _)).trans o3)
       clear KC o3 g3 G2 O2 f20 f21 h20 h21 i20 i21))
  go_ret
  exact ⟨rfl, O3.out.trans (Old.alloc _ _)⟩

set_option maxHeartbeats 1000000 in
theorem ky_main2 (s : ByteArray) (k : Nat) (x : Int) (w : World) (hx : (Lit.int .u8 x).wf = true) (hm : Int.tmod x 3 = 2) (ha : asc s) (hs : s.size ≤ 100) (hs0 : s.size ≠ 0) (hk : k ≤ s.size) (h9 : ln9 s k = true) (hkw : (Lit.int .i64 (k : Int)).wf = true) :
    Calls Tryd.prog 6 #[.agg #[.string s, .int .i64 k], .int .u8 x] w fun e w' => e = .returned (.bool true) ∧ Old w w' := by
  have H9 := Lib.hid h9
  have F : Hid (decide (s.size ≤ 2147483647) = true) := by unfold Hid; simp; omega
  have KC := Lib.hid (fun lb W => ky_erase lb s k W ha hs hk)
  have d2 : decide ((100 : Int) < s.size) = false := by simp; omega
  have d3 := not_empty_ky hs0
  clear ha h9
  go_enter Tryd.func6, Tryd.ntmps6
  go_wp2_with (first
    | (go_at_call 12; refine (fits_any s k _).mono ?_; rintro e w1 ⟨rfl, o1⟩; rw [F.out]
       have g1 : w1.heap[w.heap.size]? = some (.cells #[.string s, .int .i64 k] 23) := (o1.heap (by simp)).trans (at_new _ _ rfl)
       have f10 := cell_of_heap g1 0
       have f11 := cell_of_heap g1 1
       simp only [List.getElem?_toArray, List.getElem?_cons_zero, List.getElem?_cons_succ] at f10 f11
       have G1 := Lib.hid g1
       have O1 := Lib.hid ((Old.alloc w _).trans o1); clear o1 g1)
    | (go_at_call 13; refine (line9_any s k _ (by omega) hkw).mono ?_; rintro e w2 ⟨rfl, o2⟩; rw [H9.out]
       have g2 := (o2.heap (Array.getElem?_eq_some_iff.1 G1.out).1).trans G1.out
       have h20 : w2.cell? ⟨w.heap.size, 0, none⟩ = some (.string s) := cell_of_heap g2 0
       have h21 : w2.cell? ⟨w.heap.size, 1, none⟩ = some (.int .i64 k) := cell_of_heap g2 1
       have f20 : ∀ o, (w2.alloc o).cell? ⟨w.heap.size, 0, none⟩ = some (.string s) := fun o => cell_of_heap (at_alloc g2) 0
       have f21 : ∀ o, (w2.alloc o).cell? ⟨w.heap.size, 1, none⟩ = some (.int .i64 k) := fun o => cell_of_heap (at_alloc g2) 1
       have i20 : ∀ o q, ((w2.alloc o).alloc q).cell? ⟨w.heap.size, 0, none⟩ = some (.string s) := fun o q => cell_of_heap (at_alloc (at_alloc g2)) 0
       have i21 : ∀ o q, ((w2.alloc o).alloc q).cell? ⟨w.heap.size, 1, none⟩ = some (.int .i64 k) := fun o q => cell_of_heap (at_alloc (at_alloc g2)) 1
       have G2 := Lib.hid g2
       have O2 := Lib.hid (O1.out.trans o2); clear o2 g2 f10 f11 G1 O1)
    | (go_at_call 14; refine (KC.out _ _ (at_new _ _ (by simp))).mono ?_; rintro e w3 ⟨rfl, o3⟩
       have g3 := (o3.heap (by simp <;> omega)).trans (at_alloc (at_new (w2.alloc (.cells #[.int .i64 15, .int .i64 16, .int .i64 9] 3)) (.cells #[.string s, .int .i64 s.size] 23) (k := w2.heap.size + 1) (by simp)))
       have f30 : ∀ o, (w3.alloc o).cell? ⟨w2.heap.size + 1, 0, none⟩ = some (.string s) := fun o => cell_of_heap (at_alloc g3) 0
       have f31 : ∀ o, (w3.alloc o).cell? ⟨w2.heap.size + 1, 1, none⟩ = some (.int .i64 s.size) := fun o => cell_of_heap (at_alloc g3) 1
       have O3 := Lib.hid ((((O2.out.trans (Old.alloc _ _)).trans (Old.alloc _ _)).trans (Old.alloc _ _)).trans o3)
       clear KC o3 g3 G2 O2 f20 f21 h20 h21 i20 i21))
  go_ret
  exact ⟨rfl, O3.out.trans (Old.alloc _ _)⟩

theorem ky_guard1 (s : ByteArray) (k x : Int) (w : World) (hk : (Lit.int .i64 k).wf = true) (hs : s.size ≤ 9223372036854775807) (h : ln9 s k = false) :
    Calls Tryd.prog 6 #[.agg #[.string s, .int .i64 k], .int .u8 x] w fun e w' => e = .returned (.bool true) ∧ Old w w' := by
  have H := Lib.hid h
  clear h
  by_cases h1 : 2147483647 < s.size
  · have F : Hid (decide (s.size ≤ 2147483647) = false) := by unfold Hid; simp; omega
    go_enter Tryd.func6, Tryd.ntmps6
    go_wp2_with (go_at_call 12; refine (fits_any s k _).mono ?_; rintro e w1 ⟨rfl, o1⟩; rw [F.out]; have O1 := Lib.hid ((Old.alloc w _).trans o1); clear o1)
    go_ret
    exact ⟨rfl, O1.out⟩
  have F : Hid (decide (s.size ≤ 2147483647) = true) := by unfold Hid; simp; omega
  go_enter Tryd.func6, Tryd.ntmps6
  go_wp2_with (first
    | (go_at_call 12; refine (fits_any s k _).mono ?_; rintro e w1 ⟨rfl, o1⟩; rw [F.out]
       have g10 : w1.cell? ⟨w.heap.size, 0, none⟩ = some (.string s) := (o1.cell (by simp)).trans ((World.cell?_alloc_mark w #[.string s, .int .i64 k] _ (0, 0) 0).trans rfl)
       have g11 : w1.cell? ⟨w.heap.size, 1, none⟩ = some (.int .i64 k) := (o1.cell (by simp)).trans ((World.cell?_alloc_mark w #[.string s, .int .i64 k] _ (0, 0) 1).trans rfl)
       have O1 := Lib.hid ((Old.alloc w _).trans o1); clear o1)
    | (go_at_call 13; refine (line9_any s k _ (by omega) hk).mono ?_; rintro e w2 ⟨rfl, o2⟩; rw [H.out]
       have O2 := Lib.hid (O1.out.trans o2); clear o2))
  go_ret
  exact ⟨rfl, O2.out⟩

theorem ky_guard2 (s : ByteArray) (k : Nat) (x : Int) (w : World) (hkw : (Lit.int .i64 (k : Int)).wf = true) (hs : s.size ≤ 300) (h9 : ln9 s k = true) (h : 100 < s.size) :
    Calls Tryd.prog 6 #[.agg #[.string s, .int .i64 k], .int .u8 x] w fun e w' => e = .returned (.bool true) ∧ Old w w' := by
  have H9 := Lib.hid h9
  have F : Hid (decide (s.size ≤ 2147483647) = true) := by unfold Hid; simp; omega
  have d2 : decide ((100 : Int) < s.size) = true := by simp; omega
  clear h9
  go_enter Tryd.func6, Tryd.ntmps6
  go_wp2_with (first
    | (go_at_call 12; refine (fits_any s k _).mono ?_; rintro e w1 ⟨rfl, o1⟩; rw [F.out]
       have g1 : w1.heap[w.heap.size]? = some (.cells #[.string s, .int .i64 k] 23) := (o1.heap (by simp)).trans (at_new _ _ rfl)
       have f10 := cell_of_heap g1 0
       have f11 := cell_of_heap g1 1
       simp only [List.getElem?_toArray, List.getElem?_cons_zero, List.getElem?_cons_succ] at f10 f11
       have G1 := Lib.hid g1
       have O1 := Lib.hid ((Old.alloc w _).trans o1); clear o1 g1)
    | (go_at_call 13; refine (line9_any s k _ (by omega) hkw).mono ?_; rintro e w2 ⟨rfl, o2⟩; rw [H9.out]
       have g2 := (o2.heap (Array.getElem?_eq_some_iff.1 G1.out).1).trans G1.out
       have h20 : w2.cell? ⟨w.heap.size, 0, none⟩ = some (.string s) := cell_of_heap g2 0
       have h21 : w2.cell? ⟨w.heap.size, 1, none⟩ = some (.int .i64 k) := cell_of_heap g2 1
       have f20 : ∀ o, (w2.alloc o).cell? ⟨w.heap.size, 0, none⟩ = some (.string s) := fun o => cell_of_heap (at_alloc g2) 0
       have f21 : ∀ o, (w2.alloc o).cell? ⟨w.heap.size, 1, none⟩ = some (.int .i64 k) := fun o => cell_of_heap (at_alloc g2) 1
       have O2 := Lib.hid (O1.out.trans o2); clear o2 g2 f10 f11 G1 O1))
  go_ret
  exact ⟨rfl, O2.out⟩

theorem ky_guard3 (s : ByteArray) (k : Nat) (x : Int) (w : World) (hkw : (Lit.int .i64 (k : Int)).wf = true) (h9 : ln9 s k = true) (h : s.size = 0) :
    Calls Tryd.prog 6 #[.agg #[.string s, .int .i64 k], .int .u8 x] w fun e w' => e = .returned (.bool true) ∧ Old w w' := by
  have hs : s = ⟨#[]⟩ := by
    have h3 : s.data.size = 0 := h
    cases s
    congr 1
    exact Array.eq_empty_of_size_eq_zero h3
  subst hs
  have H9 := Lib.hid h9
  have F : Hid (decide ((⟨#[]⟩ : ByteArray).size ≤ 2147483647) = true) := rfl
  clear h9
  go_enter Tryd.func6, Tryd.ntmps6
  go_wp2_with (first
    | (go_at_call 12; refine (fits_any ⟨#[]⟩ k _).mono ?_; rintro e w1 ⟨rfl, o1⟩; rw [F.out]
       have g1 : w1.heap[w.heap.size]? = some (.cells #[.string ⟨#[]⟩, .int .i64 k] 23) := (o1.heap (by simp)).trans (at_new _ _ rfl)
       have f10 := cell_of_heap g1 0
       have f11 := cell_of_heap g1 1
       simp only [List.getElem?_toArray, List.getElem?_cons_zero, List.getElem?_cons_succ] at f10 f11
       have G1 := Lib.hid g1
       have O1 := Lib.hid ((Old.alloc w _).trans o1); clear o1 g1)
    | (go_at_call 13; refine (line9_any ⟨#[]⟩ k _ (by decide) hkw).mono ?_; rintro e w2 ⟨rfl, o2⟩; rw [H9.out]
       have g2 := (o2.heap (Array.getElem?_eq_some_iff.1 G1.out).1).trans G1.out
       have h20 : w2.cell? ⟨w.heap.size, 0, none⟩ = some (.string ⟨#[]⟩) := cell_of_heap g2 0
       have h21 : w2.cell? ⟨w.heap.size, 1, none⟩ = some (.int .i64 k) := cell_of_heap g2 1
       have f20 : ∀ o, (w2.alloc o).cell? ⟨w.heap.size, 0, none⟩ = some (.string ⟨#[]⟩) := fun o => cell_of_heap (at_alloc g2) 0
       have f21 : ∀ o, (w2.alloc o).cell? ⟨w.heap.size, 1, none⟩ = some (.int .i64 k) := fun o => cell_of_heap (at_alloc g2) 1
       have O2 := Lib.hid (O1.out.trans o2); clear o2 g2 f10 f11 G1 O1))
  go_ret
  exact ⟨rfl, O2.out⟩

theorem ky_guard4 (s : ByteArray) (k : Nat) (x : Int) (w : World) (hx : (Lit.int .u8 x).wf = true) (hm : Int.tmod x 3 = 0) (hs : s.size ≤ 100) (hs0 : s.size ≠ 0) (hk : k = s.size) (h9 : ln9 s k = true) (hkw : (Lit.int .i64 (k : Int)).wf = true) :
    Calls Tryd.prog 6 #[.agg #[.string s, .int .i64 k], .int .u8 x] w fun e w' => e = .returned (.bool true) ∧ Old w w' := by
  have H9 := Lib.hid h9
  have F : Hid (decide (s.size ≤ 2147483647) = true) := by unfold Hid; simp; omega
  have d1 : ((k : Int) == (s.size : Int)) = true := by simp [hk]
  have d2 : decide ((100 : Int) < s.size) = false := by simp; omega
  have d3 := not_empty_ky hs0
  clear h9 hk
  go_enter Tryd.func6, Tryd.ntmps6
  go_wp2_with (first
    | (go_at_call 12; refine (fits_any s k _).mono ?_; rintro e w1 ⟨rfl, o1⟩; rw [F.out]
       have g1 : w1.heap[w.heap.size]? = some (.cells #[.string s, .int .i64 k] 23) := (o1.heap (by simp)).trans (at_new _ _ rfl)
       have f10 := cell_of_heap g1 0
       have f11 := cell_of_heap g1 1
       simp only [List.getElem?_toArray, List.getElem?_cons_zero, List.getElem?_cons_succ] at f10 f11
       have G1 := Lib.hid g1
       have O1 := Lib.hid ((Old.alloc w _).trans o1); clear o1 g1)
    | (go_at_call 13; refine (line9_any s k _ (by omega) hkw).mono ?_; rintro e w2 ⟨rfl, o2⟩; rw [H9.out]
       have g2 := (o2.heap (Array.getElem?_eq_some_iff.1 G1.out).1).trans G1.out
       have h20 : w2.cell? ⟨w.heap.size, 0, none⟩ = some (.string s) := cell_of_heap g2 0
       have h21 : w2.cell? ⟨w.heap.size, 1, none⟩ = some (.int .i64 k) := cell_of_heap g2 1
       have f20 : ∀ o, (w2.alloc o).cell? ⟨w.heap.size, 0, none⟩ = some (.string s) := fun o => cell_of_heap (at_alloc g2) 0
       have f21 : ∀ o, (w2.alloc o).cell? ⟨w.heap.size, 1, none⟩ = some (.int .i64 k) := fun o => cell_of_heap (at_alloc g2) 1
       have O2 := Lib.hid (O1.out.trans o2); clear o2 g2 f10 f11 G1 O1))
  go_ret
  exact ⟨rfl, O2.out.trans (Old.alloc _ _)⟩

theorem ky_guard5 (s : ByteArray) (x : Int) (w : World) (hx : (Lit.int .u8 x).wf = true) (hm : Int.tmod x 3 = 1) (hs : s.size ≤ 100) (hs0 : s.size ≠ 0) (h9 : ln9 s 0 = true) (hkw : (Lit.int .i64 0).wf = true) :
    Calls Tryd.prog 6 #[.agg #[.string s, .int .i64 0], .int .u8 x] w fun e w' => e = .returned (.bool true) ∧ Old w w' := by
  have H9 := Lib.hid h9
  have F : Hid (decide (s.size ≤ 2147483647) = true) := by unfold Hid; simp; omega
  have d2 : decide ((100 : Int) < s.size) = false := by simp; omega
  have d3 := not_empty_ky hs0
  clear h9
  go_enter Tryd.func6, Tryd.ntmps6
  go_wp2_with (first
    | (go_at_call 12; refine (fits_any s 0 _).mono ?_; rintro e w1 ⟨rfl, o1⟩; rw [F.out]
       have g1 : w1.heap[w.heap.size]? = some (.cells #[.string s, .int .i64 0] 23) := (o1.heap (by simp)).trans (at_new _ _ rfl)
       have f10 := cell_of_heap g1 0
       have f11 := cell_of_heap g1 1
       simp only [List.getElem?_toArray, List.getElem?_cons_zero, List.getElem?_cons_succ] at f10 f11
       have G1 := Lib.hid g1
       have O1 := Lib.hid ((Old.alloc w _).trans o1); clear o1 g1)
    | (go_at_call 13; refine (line9_any s 0 _ (by omega) hkw).mono ?_; rintro e w2 ⟨rfl, o2⟩; rw [H9.out]
       have g2 := (o2.heap (Array.getElem?_eq_some_iff.1 G1.out).1).trans G1.out
       have h20 : w2.cell? ⟨w.heap.size, 0, none⟩ = some (.string s) := cell_of_heap g2 0
       have h21 : w2.cell? ⟨w.heap.size, 1, none⟩ = some (.int .i64 0) := cell_of_heap g2 1
       have f20 : ∀ o, (w2.alloc o).cell? ⟨w.heap.size, 0, none⟩ = some (.string s) := fun o => cell_of_heap (at_alloc g2) 0
       have f21 : ∀ o, (w2.alloc o).cell? ⟨w.heap.size, 1, none⟩ = some (.int .i64 0) := fun o => cell_of_heap (at_alloc g2) 1
       have O2 := Lib.hid (O1.out.trans o2); clear o2 g2 f10 f11 G1 O1))
  go_ret
  exact ⟨rfl, O2.out.trans (Old.alloc _ _)⟩

theorem ky_walk (s : ByteArray) (k x : Int) (w : World) (hs : s.size ≤ 9223372036854775807) (hk : (Lit.int .i64 k).wf = true) (hx : (Lit.int .u8 x).wf = true) :
    Calls Tryd.prog 6 #[.agg #[.string s, .int .i64 k], .int .u8 x] w fun e w' => e = .returned (.bool true) ∧ Below w.heap.size w w' := by
  cases h : ln9 s k
  · exact ky_guard1 s k x w hk hs h
  · have hq : asc9 s = true ∧ 0 ≤ k ∧ k ≤ s.size := by have := h; unfold ln9 at this; simpa using this
    have ha := asc9_iff.1 hq.1
    obtain ⟨a, rfl⟩ : ∃ a : Nat, k = a := ⟨k.toNat, by omega⟩
    by_cases h1 : 100 < s.size
    · exact ky_guard2 s a x w hk ha.2 h h1
    by_cases h2 : s.size = 0
    · exact ky_guard3 s a x w hk h h2
    have hxb : 0 ≤ x := (bounds_u8 hx).1
    have hmod : Int.tmod x 3 = 0 ∨ Int.tmod x 3 = 1 ∨ Int.tmod x 3 = 2 := by rw [Int.tmod_eq_emod_of_nonneg hxb]; omega
    rcases hmod with hm | hm | hm
    · by_cases h3 : a = s.size
      · exact ky_guard4 s a x w hx hm (by omega) h2 h3 h hk
      · exact ky_main0 s a x w hx hm ha.1 (by omega) h2 (by omega) h hk
    · by_cases h3 : a = 0
      · subst h3
        exact ky_guard5 s x w hx hm (by omega) h2 h hk
      · exact ky_main1 s a x w hx hm ha.1 (by omega) h2 (by omega) h3 h hk
    · exact ky_main2 s a x w hx hm ha.1 (by omega) h2 (by omega) h hk
end Go.Proofs.YtlfmmmbafkelhaaDoor
