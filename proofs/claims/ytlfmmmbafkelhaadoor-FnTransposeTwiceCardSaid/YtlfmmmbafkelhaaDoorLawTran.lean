/- FnTransposeTwice: the walk. -/
import Derived.Test.YtlfmmmbafkelhaaDoorAfterN
import Derived.Test.YtlfmmmbafkelhaaDoorDispT
namespace Go.Proofs.YtlfmmmbafkelhaaDoor
open Go.RowKit
set_option linter.unusedVariables false
set_option linter.unusedSimpArgs false
set_option maxRecDepth 100000

theorem swapAt_twice (l : List Int) (a : Nat) (h : a + 1 < l.length) : swapAt (swapAt l a) a = l := by
  have h1 : gi (swapAt l a) a = gi l (a + 1) := by
    have e : a < l.length := by omega
    unfold swapAt gi
    simp [List.getD, List.getElem?_set, e, h]
  have h2 : gi (swapAt l a) (a + 1) = gi l a := by
    have e : a < l.length := by omega
    unfold swapAt gi
    simp [List.getD, List.getElem?_set, e, h]
  unfold swapAt at h1 h2 ⊢
  rw [h1, h2]
  apply List.ext_getElem
  · simp
  · intro i h3 h4
    simp only [List.getElem_set]
    split
    · rename_i e; subst e; rw [gi_lt (by omega)]
    · split
      · rename_i e; subst e; rw [gi_lt (by omega)]
      · rename_i e1 e2
        rfl

/-- The text with two bytes exchanged. -/
def swapB (s : ByteArray) (a : Nat) : ByteArray := ⟨((s.data.toList.set (a + 1) (s.data.toList.getD a 0)).set a (s.data.toList.getD (a + 1) 0)).toArray⟩
theorem swapB_list (s : ByteArray) (a : Nat) : (swapB s a).data.toList = (s.data.toList.set (a + 1) (s.data.toList.getD a 0)).set a (s.data.toList.getD (a + 1) 0) := rfl
theorem swapB_size (s : ByteArray) (a : Nat) : (swapB s a).size = s.size := by
  have : (swapB s a).data.toList.length = s.data.toList.length := by rw [swapB_list]; simp
  simpa using this
theorem gi_nums_getD (s : ByteArray) (j : Nat) (h : j < s.size) : gi (nums s) j = ((s.data.toList.getD j 0).toNat : Int) := by
  unfold gi nums
  have hl : j < s.data.toList.length := by simpa using h
  simp [List.getD, List.getElem?_eq_getElem hl]
theorem nums_swapB (s : ByteArray) (a : Nat) (h : a + 1 < s.size) : nums (swapB s a) = swapAt (nums s) a := by
  unfold swapAt
  rw [gi_nums_getD s a (by omega), gi_nums_getD s (a + 1) h]
  unfold nums
  rw [swapB_list, List.map_set, List.map_set]
theorem asc_swapB {s : ByteArray} (ha : asc s) (a : Nat) (h : a + 1 < s.size) : asc (swapB s a) := by
  have hall : ∀ c ∈ s.data.toList, c.toNat < 128 := fun c hc => by
    obtain ⟨i, hi, e⟩ := List.getElem_of_mem hc
    have hi' : i < s.size := by simpa using hi
    have := ha i hi'
    rw [← e]; exact this
  have hl : s.data.toList.length = s.size := by simp
  have hall2 : ∀ c ∈ (swapB s a).data.toList, c.toNat < 128 := fun c hc => by
    rw [swapB_list] at hc
    rcases List.mem_or_eq_of_mem_set hc with hc | rfl
    · rcases List.mem_or_eq_of_mem_set hc with hc | rfl
      · exact hall c hc
      · have : s.data.toList.getD a 0 = s.data.toList[a]'(by omega) := by simp [List.getD, List.getElem?_eq_getElem (show a < s.data.toList.length by omega)]
        rw [this]; exact hall _ (List.getElem_mem _)
    · have : s.data.toList.getD (a + 1) 0 = s.data.toList[a + 1]'(by omega) := by simp [List.getD, List.getElem?_eq_getElem (show a + 1 < s.data.toList.length by omega)]
      rw [this]; exact hall _ (List.getElem_mem _)
  intro i hi
  have : (swapB s a)[i] = (swapB s a).data.toList[i]'(by simpa using hi) := rfl
  rw [this]
  exact hall2 _ (List.getElem_mem _)
theorem extract_of_list {s t : ByteArray} (i j : Nat) (h : (s.data.toList.drop i).take (j - i) = (t.data.toList.drop i).take (j - i)) : s.extract i j = t.extract i j := by
  apply ByteArray.ext
  rw [ByteArray.data_extract, ByteArray.data_extract]
  apply Array.toList_inj.1
  rw [Array.toList_extract, Array.toList_extract, List.extract_eq_take_drop, List.extract_eq_take_drop]
  exact h
theorem swapB_front (s : ByteArray) (a : Nat) : (swapB s a).extract 0 a = s.extract 0 a := by
  apply extract_of_list
  rw [swapB_list, List.drop_zero, List.drop_zero, Nat.sub_zero, List.take_set_of_le (by omega), List.take_set_of_le (by omega)]
theorem swapB_back (s : ByteArray) (a n : Nat) : (swapB s a).extract (a + 2) n = s.extract (a + 2) n := by
  apply extract_of_list
  rw [swapB_list, List.drop_set_of_lt (by omega), List.drop_set_of_lt (by omega)]

theorem length_swapAt (l : List Int) (a : Nat) : (swapAt l a).length = l.length := by simp [swapAt]

theorem tt_one (lb : Nat) (s : ByteArray) (a : Nat) (w : World) (ha : asc s) (hs : s.size ≤ 100) (hk : a + 1 < s.size) (hc : w.heap[lb]? = some (.cells #[.int .i64 18, .string { data := #[] }, .int .i64 0, .bool false, .bool false] 28)) :
    Calls Tryd.prog 14 #[.agg #[.string s, .int .i64 ((a : Int) + 1)], .slice (some ⟨lb, 0, none⟩) 1 1] w fun e w' => e = .returned (.tuple #[.agg #[.string (swapB s a), .int .i64 ((a : Int) + 1 + 1)], .bool true]) ∧ Old w w' := by
  have hr : (runes s).length = s.size := by rw [runes_asc ha, length_nums]
  refine (after_one lb (opk 18) (fun T => tranSt (st1 s (a + 1) T)) (-1) s (a + 1) w hc (by omega) (by omega) (by omega) (fun T p b w h => keyed_k18 p b _ _ _ _ _ w h ⟨Nat.succ_pos a, by show a + 1 < (runes s).length; omega⟩) (fun T => rfl)).mono ?_
  rintro e w' ⟨T, rfl, o⟩
  refine ⟨?_, o⟩
  show Ending.returned (.tuple #[.agg #[.string (runesBytes (swapAt (runes s) a)), .int .i64 ((a + 1 + 1 : Nat) : Int)], .bool true]) = _
  rw [runes_asc ha, ← nums_swapB s a hk, runesBytes_nums (asc_swapB ha a hk)]
  rfl
theorem tt_three (lb : Nat) (s : ByteArray) (a : Nat) (w : World) (ha : asc s) (hs : s.size ≤ 100) (hk : a + 1 < s.size)
    (hc : w.heap[lb]? = some (.cells #[.int .i64 18, .string { data := #[] }, .int .i64 0, .bool false, .bool false, .int .i64 3, .string { data := #[] }, .int .i64 0, .bool false, .bool false, .int .i64 18, .string { data := #[] }, .int .i64 0, .bool false, .bool false] 28)) :
    Calls Tryd.prog 14 #[.agg #[.string s, .int .i64 ((a : Int) + 1)], .slice (some ⟨lb, 0, none⟩) 3 3] w fun e w' => e = .returned (.tuple #[.agg #[.string s, .int .i64 ((a : Int) + 1 + 1)], .bool true]) ∧ Old w w' := by
  have hr : (runes s).length = s.size := by rw [runes_asc ha, length_nums]
  refine (after_three lb (opk 18) (opk 3) (opk 18) (fun T => tranSt (st1 s (a + 1) T)) (fun T => { tranSt (st1 s (a + 1) T) with at_ := (tranSt (st1 s (a + 1) T)).at_ - 1 }) (fun T => tranSt { tranSt (st1 s (a + 1) T) with at_ := (tranSt (st1 s (a + 1) T)).at_ - 1 }) (-1) (-1) (-1) s (a + 1) w hc (by omega) (by omega) (by omega)
    (fun T p b w h => keyed_k18 p b _ _ _ _ _ w h ⟨Nat.succ_pos a, by show a + 1 < (runes s).length; omega⟩)
    (fun T p b w h => keyed_k3 p b _ _ _ _ _ w h)
    (fun T p b w h => keyed_k18 p b _ _ _ _ _ w h ⟨Nat.succ_pos a, by show a + 1 < (swapAt (runes s) a).length; rw [length_swapAt]; omega⟩) (fun T => rfl) (fun T => rfl) (fun T => rfl)).mono ?_
  rintro e w' ⟨T, rfl, o⟩
  refine ⟨?_, o⟩
  show Ending.returned (.tuple #[.agg #[.string (runesBytes (swapAt (swapAt (runes s) a) a)), .int .i64 ((a + 1 + 1 : Nat) : Int)], .bool true]) = _
  rw [swapAt_twice _ _ (by omega), runes_asc ha, runesBytes_nums ha]
  rfl

set_option maxHeartbeats 2000000 in
theorem tt_main (s : ByteArray) (a : Nat) (w : World) (ha : asc s) (hs : s.size ≤ 100) (hk : a + 1 < s.size) (h9 : sh9 s ((a : Int) + 1) = true) (hkw : (Lit.int .i64 ((a : Int) + 1)).wf = true) :
    Calls Tryd.prog 7 #[.agg #[.string s, .int .i64 ((a : Int) + 1)]] w fun e w' => e = .returned (.bool true) ∧ Old w w' := by
  have H9 := Lib.hid h9
  have F : Hid (decide (s.size ≤ 2147483647) = true) := by unfold Hid; simp; omega
  obtain ⟨X, hX⟩ : ∃ X, X = swapB s a := ⟨_, rfl⟩
  have KC := Lib.hid (fun lb W => tt_one lb s a W ha hs hk)
  rw [← hX] at KC
  have K3 := Lib.hid (fun lb W => tt_three lb s a W ha hs hk)
  have hXs : X.size = s.size := by rw [hX, swapB_size]
  have hx1 : X.extract 0 a = s.extract 0 a := by rw [hX, swapB_front]
  have hx2 : X.extract (a + 1 + 1) s.size = s.extract (a + 1 + 1) s.size := by rw [hX]; exact swapB_back s a s.size
  have d1 : ((a : Int) + 1 == 0) = false := by simp; omega
  have d2 : ((a : Int) + 1 == (s.size : Int)) = false := by simp; omega
  have e1 : IntKind.i64.wrap ((a : Int) + 1 + 1) = (a : Int) + 1 + 1 := IntWalk.i64_in _ (by omega)
  have e2 : IntKind.i64.wrap (a : Int) = a := IntWalk.i64_in _ (by omega)
  have e3 : IntKind.i64.wrap ((a : Int) + 1 - 1) = a := by rw [Int.add_sub_cancel]; exact e2
  have i1 : (a : Int) ≤ s.size := by omega
  have i2 : (a : Int) + 1 + 1 ≤ s.size := by omega
  have i3 : (0 : Int) ≤ (a : Int) + 1 + 1 := by omega
  have i4 : ((a : Int) + 1 + 1).toNat = a + 1 + 1 := by omega
  have i5 : a ≤ s.size := by omega
  clear ha h9 hX
  go_enter Tryd.func7, Tryd.ntmps7
  go_wp2_with (first
    | (go_at_call 12; refine (fits_any s _ _).mono ?_; rintro e w1 ⟨rfl, o1⟩; rw [F.out]
       have g1 : w1.heap[w.heap.size]? = some (.cells #[.string s, .int .i64 ((a : Int) + 1)] 23) := (o1.heap (by simp)).trans (at_new _ _ rfl)
       have f10 := cell_of_heap g1 0
       have f11 := cell_of_heap g1 1
       simp only [List.getElem?_toArray, List.getElem?_cons_zero, List.getElem?_cons_succ] at f10 f11
       have G1 := Lib.hid g1
       have O1 := Lib.hid ((Old.alloc w _).trans o1); clear o1 g1)
    | (go_at_call 16; refine (short9_any s _ _ (by omega) hkw).mono ?_; rintro e w2 ⟨rfl, o2⟩; rw [H9.out]
       have g2 := (o2.heap (Array.getElem?_eq_some_iff.1 G1.out).1).trans G1.out
       have h20 : w2.cell? ⟨w.heap.size, 0, none⟩ = some (.string s) := cell_of_heap g2 0
       have h21 : w2.cell? ⟨w.heap.size, 1, none⟩ = some (.int .i64 ((a : Int) + 1)) := cell_of_heap g2 1
       have f20 : ∀ o, (w2.alloc o).cell? ⟨w.heap.size, 0, none⟩ = some (.string s) := fun o => cell_of_heap (at_alloc g2) 0
       have f21 : ∀ o, (w2.alloc o).cell? ⟨w.heap.size, 1, none⟩ = some (.int .i64 ((a : Int) + 1)) := fun o => cell_of_heap (at_alloc g2) 1
       have G2 := Lib.hid g2
       have O2 := Lib.hid (O1.out.trans o2); clear o2 g2 f10 f11 G1 O1)
    | (go_at_call 14; refine (KC.out _ _ (at_new _ _ (by simp))).mono ?_; rintro e w3 ⟨rfl, o3⟩
       have g3 := (o3.heap (by simp; exact Nat.lt_succ_of_lt (Nat.lt_succ_of_lt (Array.getElem?_eq_some_iff.1 G2.out).1))).trans (at_alloc (at_alloc G2.out))
       have k3 := (o3.heap (by simp; omega)).trans (at_alloc (at_new w2 (.cells #[.int .i64 18, .string { data := #[] }, .int .i64 0, .bool false, .bool false] 28) rfl))
       have f30 : ∀ o, (w3.alloc o).cell? ⟨w.heap.size, 0, none⟩ = some (.string s) := fun o => cell_of_heap (at_alloc g3) 0
       have f31 : ∀ o, (w3.alloc o).cell? ⟨w.heap.size, 1, none⟩ = some (.int .i64 ((a : Int) + 1)) := fun o => cell_of_heap (at_alloc g3) 1
       have q0 : ∀ o, (w3.alloc o).cell? ⟨w2.heap.size, 0, none⟩ = some (.int .i64 18) := fun o => cell_of_heap (at_alloc k3) 0
       have q1 : ∀ o, (w3.alloc o).cell? ⟨w2.heap.size, 1, none⟩ = some (.string { data := #[] }) := fun o => cell_of_heap (at_alloc k3) 1
       have q2 : ∀ o, (w3.alloc o).cell? ⟨w2.heap.size, 2, none⟩ = some (.int .i64 0) := fun o => cell_of_heap (at_alloc k3) 2
       have q3 : ∀ o, (w3.alloc o).cell? ⟨w2.heap.size, 3, none⟩ = some (.bool false) := fun o => cell_of_heap (at_alloc k3) 3
       have q4 : ∀ o, (w3.alloc o).cell? ⟨w2.heap.size, 4, none⟩ = some (.bool false) := fun o => cell_of_heap (at_alloc k3) 4
       have G3 := Lib.hid g3
       have O3 := Lib.hid (((O2.out.trans (Old.alloc _ _)).trans (Old.alloc _ _)).trans o3)
       clear KC o3 g3 k3 G2 O2 f20 f21 h20 h21)
    | (go_at_call 14; refine (K3.out _ _ (at_new _ _ (by simp))).mono ?_; rintro e w4 ⟨rfl, o4⟩
       have g4 := (o4.heap (by simp; exact Nat.lt_succ_of_lt (Nat.lt_succ_of_lt (Array.getElem?_eq_some_iff.1 G3.out).1))).trans (at_alloc (at_alloc G3.out))
       have g5 := (o4.heap (by simp; omega)).trans (at_alloc (at_new w3 (.cells #[.string X, .int .i64 ((a : Int) + 1 + 1)] 23) rfl))
       have G4 := Lib.hid g4
       have G5 := Lib.hid g5
       have O4 := Lib.hid (((O3.out.trans (Old.alloc _ _)).trans (Old.alloc _ _)).trans o4)
       clear K3 o4 g4 g5 G3 O3 f30 f31 q0 q1 q2 q3 q4))
  have g4 := at_alloc (o := (.cells #[.string s, .int .i64 ((a : Int) + 1 + 1)] 23)) G4.out
  have g5 := at_alloc (o := (.cells #[.string s, .int .i64 ((a : Int) + 1 + 1)] 23)) G5.out
  have g6 := at_new w4 (.cells #[.string s, .int .i64 ((a : Int) + 1 + 1)] 23) rfl
  have O5 := Lib.hid (O4.out.trans (Old.alloc w4 (.cells #[.string s, .int .i64 ((a : Int) + 1 + 1)] 23)))
  clear G4 G5 O4
  generalize w4.alloc (.cells #[.string s, .int .i64 ((a : Int) + 1 + 1)] 23) = w5 at g4 g5 g6 O5 ⊢
  have p0 : w5.cell? ⟨w.heap.size, 0, none⟩ = some (.string s) := cell_of_heap g4 0
  have p1 : w5.cell? ⟨w.heap.size, 1, none⟩ = some (.int .i64 ((a : Int) + 1)) := cell_of_heap g4 1
  have r0 : w5.cell? ⟨w3.heap.size, 0, none⟩ = some (.string X) := cell_of_heap g5 0
  have r1 : w5.cell? ⟨w3.heap.size, 1, none⟩ = some (.int .i64 ((a : Int) + 1 + 1)) := cell_of_heap g5 1
  have u0 : w5.cell? ⟨w4.heap.size, 0, none⟩ = some (.string s) := cell_of_heap g6 0
  have u1 : w5.cell? ⟨w4.heap.size, 1, none⟩ = some (.int .i64 ((a : Int) + 1 + 1)) := cell_of_heap g6 1
  clear g4 g5 g6
  go_quiet (fail)
  go_wp2_with fail
  go_ret
  exact ⟨rfl, O5.out.trans (Old.drewN w5 _)⟩

theorem tt_guard1 (s : ByteArray) (k : Int) (w : World) (hk : (Lit.int .i64 k).wf = true) (hs : s.size ≤ 9223372036854775807) (h : sh9 s k = false) :
    Calls Tryd.prog 7 #[.agg #[.string s, .int .i64 k]] w fun e w' => e = .returned (.bool true) ∧ Old w w' := by
  have H := Lib.hid h
  clear h
  by_cases h1 : 2147483647 < s.size
  · have F : Hid (decide (s.size ≤ 2147483647) = false) := by unfold Hid; simp; omega
    go_enter Tryd.func7, Tryd.ntmps7
    go_wp2_with (go_at_call 12; refine (fits_any s k _).mono ?_; rintro e w1 ⟨rfl, o1⟩; rw [F.out]; have O1 := Lib.hid ((Old.alloc w _).trans o1); clear o1)
    go_ret
    exact ⟨rfl, O1.out⟩
  have F : Hid (decide (s.size ≤ 2147483647) = true) := by unfold Hid; simp; omega
  go_enter Tryd.func7, Tryd.ntmps7
  go_wp2_with (first
    | (go_at_call 12; refine (fits_any s k _).mono ?_; rintro e w1 ⟨rfl, o1⟩; rw [F.out]
       have g10 : w1.cell? ⟨w.heap.size, 0, none⟩ = some (.string s) := (o1.cell (by simp)).trans ((World.cell?_alloc_mark w #[.string s, .int .i64 k] _ (0, 0) 0).trans rfl)
       have g11 : w1.cell? ⟨w.heap.size, 1, none⟩ = some (.int .i64 k) := (o1.cell (by simp)).trans ((World.cell?_alloc_mark w #[.string s, .int .i64 k] _ (0, 0) 1).trans rfl)
       have O1 := Lib.hid ((Old.alloc w _).trans o1); clear o1)
    | (go_at_call 16; refine (short9_any s k _ (by omega) hk).mono ?_; rintro e w2 ⟨rfl, o2⟩; rw [H.out]
       have O2 := Lib.hid (O1.out.trans o2); clear o2))
  go_ret
  exact ⟨rfl, O2.out⟩


theorem tt_guard2 (s : ByteArray) (w : World)  (hs : s.size ≤ 100) (h9 : sh9 s 0 = true) (hkw : (Lit.int .i64 (0 : Int)).wf = true) :
    Calls Tryd.prog 7 #[.agg #[.string s, .int .i64 0]] w fun e w' => e = .returned (.bool true) ∧ Old w w' := by
  have H9 := Lib.hid h9
  have F : Hid (decide (s.size ≤ 2147483647) = true) := by unfold Hid; simp; omega
  clear h9
  go_enter Tryd.func7, Tryd.ntmps7
  go_wp2_with (first
    | (go_at_call 12; refine (fits_any s _ _).mono ?_; rintro e w1 ⟨rfl, o1⟩; rw [F.out]
       have g1 : w1.heap[w.heap.size]? = some (.cells #[.string s, .int .i64 0] 23) := (o1.heap (by simp)).trans (at_new _ _ rfl)
       have f10 := cell_of_heap g1 0
       have f11 := cell_of_heap g1 1
       simp only [List.getElem?_toArray, List.getElem?_cons_zero, List.getElem?_cons_succ] at f10 f11
       have G1 := Lib.hid g1
       have O1 := Lib.hid ((Old.alloc w _).trans o1); clear o1 g1)
    | (go_at_call 16; refine (short9_any s _ _ (by omega) hkw).mono ?_; rintro e w2 ⟨rfl, o2⟩; rw [H9.out]
       have g2 := (o2.heap (Array.getElem?_eq_some_iff.1 G1.out).1).trans G1.out
       have h20 : w2.cell? ⟨w.heap.size, 0, none⟩ = some (.string s) := cell_of_heap g2 0
       have h21 : w2.cell? ⟨w.heap.size, 1, none⟩ = some (.int .i64 0) := cell_of_heap g2 1
       have O2 := Lib.hid (O1.out.trans o2); clear o2 g2 f10 f11 G1 O1))
  go_ret
  exact ⟨rfl, O2.out⟩

theorem tt_guard3 (s : ByteArray) (k : Nat) (w : World) (hk0 : k ≠ 0) (hk : k = s.size) (hs : s.size ≤ 100) (h9 : sh9 s (k : Int) = true) (hkw : (Lit.int .i64 ((k : Int) : Int)).wf = true) :
    Calls Tryd.prog 7 #[.agg #[.string s, .int .i64 (k : Int)]] w fun e w' => e = .returned (.bool true) ∧ Old w w' := by
  have H9 := Lib.hid h9
  have F : Hid (decide (s.size ≤ 2147483647) = true) := by unfold Hid; simp; omega
  have d1 : ((k : Int) == 0) = false := by simp; omega
  have d2 : ((k : Int) == (s.size : Int)) = true := by simp [hk]
  clear hk hk0
  clear h9
  go_enter Tryd.func7, Tryd.ntmps7
  go_wp2_with (first
    | (go_at_call 12; refine (fits_any s _ _).mono ?_; rintro e w1 ⟨rfl, o1⟩; rw [F.out]
       have g1 : w1.heap[w.heap.size]? = some (.cells #[.string s, .int .i64 (k : Int)] 23) := (o1.heap (by simp)).trans (at_new _ _ rfl)
       have f10 := cell_of_heap g1 0
       have f11 := cell_of_heap g1 1
       simp only [List.getElem?_toArray, List.getElem?_cons_zero, List.getElem?_cons_succ] at f10 f11
       have G1 := Lib.hid g1
       have O1 := Lib.hid ((Old.alloc w _).trans o1); clear o1 g1)
    | (go_at_call 16; refine (short9_any s _ _ (by omega) hkw).mono ?_; rintro e w2 ⟨rfl, o2⟩; rw [H9.out]
       have g2 := (o2.heap (Array.getElem?_eq_some_iff.1 G1.out).1).trans G1.out
       have h20 : w2.cell? ⟨w.heap.size, 0, none⟩ = some (.string s) := cell_of_heap g2 0
       have h21 : w2.cell? ⟨w.heap.size, 1, none⟩ = some (.int .i64 (k : Int)) := cell_of_heap g2 1
       have O2 := Lib.hid (O1.out.trans o2); clear o2 g2 f10 f11 G1 O1))
  go_ret
  exact ⟨rfl, O2.out⟩

theorem tt_walk (s : ByteArray) (k : Int) (w : World) (hs : s.size ≤ 9223372036854775807) (hk : (Lit.int .i64 k).wf = true) :
    Calls Tryd.prog 7 #[.agg #[.string s, .int .i64 k]] w fun e w' => e = .returned (.bool true) ∧ Below w.heap.size w w' := by
  cases h : sh9 s k
  · exact tt_guard1 s k w hk hs h
  · have h1 : ln9 s k = true ∧ s.size ≤ 100 := by unfold sh9 at h; simpa using h
    have hq : asc9 s = true ∧ 0 ≤ k ∧ k ≤ s.size := by have := h1.1; unfold ln9 at this; simpa using this
    obtain ⟨a, rfl⟩ : ∃ a : Nat, k = a := ⟨k.toNat, by omega⟩
    by_cases h2 : a = 0
    · subst h2
      exact tt_guard2 s w h1.2 h hk
    by_cases h3 : a = s.size
    · exact tt_guard3 s a w h2 h3 h1.2 h hk
    obtain ⟨c, rfl⟩ : ∃ c, a = c + 1 := ⟨a - 1, by omega⟩
    exact tt_main s c w (asc9_iff.1 hq.1).1 h1.2 (by omega) h hk
end Go.Proofs.YtlfmmmbafkelhaaDoor
