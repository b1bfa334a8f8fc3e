/- FnKillHalves: the walk. -/
import Derived.Test.YtlfmmmbafkelhaaDoorAfterN
namespace Go.Proofs.YtlfmmmbafkelhaaDoor
open Go.RowKit
set_option linter.unusedVariables false
set_option linter.unusedSimpArgs false
set_option maxRecDepth 100000

theorem halves_data {s : ByteArray} (ha : asc s) (k : Nat) (hk : k ≤ s.size) : runesBytes ((runes s).take k) = s.extract 0 k ∧ runesBytes ((runes s).drop k) = s.extract k s.size := by
  rw [runes_asc ha]
  have h1 := back_extract ha 0 k
  have h2 := back_extract ha k s.size
  refine ⟨by simpa using h1, ?_⟩
  rw [← h2, List.take_of_length_le (by rw [List.length_drop, length_nums]; omega)]
theorem extract_join (s : ByteArray) (k : Nat) (hk : k ≤ s.size) : s.extract 0 k ++ s.extract k s.size = s := by
  have : s.extract 0 s.size = s := by simp
  rw [ByteArray.extract_append_extract]
  rw [Nat.min_eq_left (Nat.zero_le _), Nat.max_eq_right hk, this]

theorem kill_after (lb : Nat) (s : ByteArray) (k : Nat) (w : World) (ha : asc s) (hs : s.size ≤ 100) (hk : k ≤ s.size) (hc : w.heap[lb]? = some (.cells #[.int .i64 15, .string { data := #[] }, .int .i64 0, .bool false, .bool false] 28)) :
    Calls Tryd.prog 14 #[.agg #[.string s, .int .i64 k], .slice (some ⟨lb, 0, none⟩) 1 1] w fun e w' => e = .returned (.tuple #[.agg #[.string (s.extract 0 k), .int .i64 k], .bool true]) ∧ Old w w' := by
  have hr : (runes s).length = s.size := by rw [runes_asc ha, length_nums]
  refine (after_one lb (opk 15) (fun T => { st1 s k T with l := (runes s).take k, kl := (runes s).drop k }) (-1) s k w hc (by omega) (by omega) (by omega) (fun T p b w h => keyed_k15 p b _ _ _ _ _ w h) (fun T => rfl)).mono ?_
  rintro e w' ⟨T, rfl, o⟩
  refine ⟨?_, o⟩
  show Ending.returned (.tuple #[.agg #[.string (runesBytes ((runes s).take k)), .int .i64 k], .bool true]) = _
  rw [(halves_data ha k hk).1]
theorem front_after (lb : Nat) (s : ByteArray) (k : Nat) (w : World) (ha : asc s) (hs : s.size ≤ 100) (hk : k ≤ s.size) (hc : w.heap[lb]? = some (.cells #[.int .i64 16, .string { data := #[] }, .int .i64 0, .bool false, .bool false] 28)) :
    Calls Tryd.prog 14 #[.agg #[.string s, .int .i64 k], .slice (some ⟨lb, 0, none⟩) 1 1] w fun e w' => e = .returned (.tuple #[.agg #[.string (s.extract k s.size), .int .i64 0], .bool true]) ∧ Old w w' := by
  have hr : (runes s).length = s.size := by rw [runes_asc ha, length_nums]
  refine (after_one lb (opk 16) (fun T => kfSt (st1 s k T)) (-1) s k w hc (by omega) (by omega) (by omega) (fun T p b w h => keyed_k16 p b _ _ _ _ _ w h) (fun T => by unfold kfSt; split <;> rfl)).mono ?_
  rintro e w' ⟨T, rfl, o⟩
  refine ⟨?_, o⟩
  by_cases h0 : k = 0
  · subst h0
    have e1 : kfSt (st1 s 0 T) = st1 s 0 T := if_pos rfl
    rw [e1]
    show Ending.returned (.tuple #[.agg #[.string (runesBytes (runes s)), .int .i64 0], .bool true]) = _
    have := (halves_data ha 0 (Nat.zero_le _)).2
    rw [List.drop_zero] at this
    rw [this]
  · have e1 : kfSt (st1 s k T) = { st1 s k T with l := (runes s).drop k, at_ := 0, kl := (runes s).take k } := if_neg (show ¬ (st1 s k T).at_ = 0 from h0)
    rw [e1]
    show Ending.returned (.tuple #[.agg #[.string (runesBytes ((runes s).drop k)), .int .i64 0], .bool true]) = _
    rw [(halves_data ha k hk).2]

set_option maxHeartbeats 1000000 in
theorem kh_main (s : ByteArray) (k : Nat) (w : World) (ha : asc s) (hs : s.size ≤ 100) (hk : k ≤ s.size) (h9 : sh9 s k = true) (hkw : (Lit.int .i64 (k : Int)).wf = true) :
    Calls Tryd.prog 5 #[.agg #[.string s, .int .i64 k]] w fun e w' => e = .returned (.bool true) ∧ Old w w' := by
  have HA := Lib.hid ha
  have H9 := Lib.hid h9
  have F : Hid (decide (s.size ≤ 2147483647) = true) := by unfold Hid; simp; omega
  obtain ⟨X, hX⟩ : ∃ X, X = s.extract 0 k := ⟨_, rfl⟩
  obtain ⟨Y, hY⟩ : ∃ Y, Y = s.extract k s.size := ⟨_, rfl⟩
  have hXY : X ++ Y = s := by rw [hX, hY]; exact extract_join s k hk
  have KC := Lib.hid (fun lb W => kill_after lb s k W ha hs hk)
  have FC := Lib.hid (fun lb W => front_after lb s k W ha hs hk)
  rw [← hX] at KC
  rw [← hY] at FC
  have B1 : X.size ≤ 1000 := by rw [hX, ByteArray.size_extract]; omega
  have B2 : Y.size ≤ 1000 := by rw [hY, ByteArray.size_extract]; omega
  clear ha h9 hX hY
  go_enter Tryd.func5, Tryd.ntmps5
  go_wp2_with (first
    | (go_at_call 12; refine (fits_any s k _).mono ?_; rintro e w1 ⟨rfl, o1⟩; rw [F.out]
       have g1 : w1.heap[w.heap.size]? = some (.cells #[.string s, .int .i64 k] 23) := (o1.heap (by simp)).trans (at_new _ _ rfl)
       have f10 := cell_of_heap g1 0
       have f11 := cell_of_heap g1 1
       simp only [List.getElem?_toArray, List.getElem?_cons_zero, List.getElem?_cons_succ] at f10 f11
       have G1 := Lib.hid g1
       have O1 := Lib.hid ((Old.alloc w _).trans o1); clear o1 g1)
    | (go_at_call 16; refine (short9_any s k _ (by omega) hkw).mono ?_; rintro e w2 ⟨rfl, o2⟩; rw [H9.out]
       have g2 := (o2.heap (Array.getElem?_eq_some_iff.1 G1.out).1).trans G1.out
       have f20 : ∀ o, (w2.alloc o).cell? ⟨w.heap.size, 0, none⟩ = some (.string s) := fun o => cell_of_heap (at_alloc g2) 0
       have f21 : ∀ o, (w2.alloc o).cell? ⟨w.heap.size, 1, none⟩ = some (.int .i64 k) := fun o => cell_of_heap (at_alloc g2) 1
       have h20 : w2.cell? ⟨w.heap.size, 0, none⟩ = some (.string s) := cell_of_heap g2 0
       have h21 : w2.cell? ⟨w.heap.size, 1, none⟩ = some (.int .i64 k) := cell_of_heap g2 1
       have G2 := Lib.hid g2
       have O2 := Lib.hid (O1.out.trans o2); clear o2 g2 f10 f11 G1 O1)
    | (go_at_call 14; refine (KC.out _ _ (at_new _ _ (by simp))).mono ?_; rintro e w3 ⟨rfl, o3⟩
       have g3 := (o3.heap (by simp; exact Nat.lt_succ_of_lt (Array.getElem?_eq_some_iff.1 G2.out).1)).trans (at_alloc G2.out)
       have f30 : ∀ o, (w3.alloc o).cell? ⟨w.heap.size, 0, none⟩ = some (.string s) := fun o => cell_of_heap (at_alloc g3) 0
       have f31 : ∀ o, (w3.alloc o).cell? ⟨w.heap.size, 1, none⟩ = some (.int .i64 k) := fun o => cell_of_heap (at_alloc g3) 1
       have G3 := Lib.hid g3
       have O3 := Lib.hid ((O2.out.trans (Old.alloc _ _)).trans o3)
       clear KC o3 g3 G2 O2 f20 f21 h20 h21)
    | (go_at_call 14; refine (FC.out _ _ (at_new _ _ (by simp))).mono ?_; rintro e w4 ⟨rfl, o4⟩
       have g4 := (o4.heap (by simp; exact Nat.lt_succ_of_lt (Nat.lt_succ_of_lt (Array.getElem?_eq_some_iff.1 G3.out).1))).trans (at_alloc (at_alloc G3.out))
       have g5 := (o4.heap (by simp; omega)).trans (at_alloc (at_new w3 (.cells #[.string X, .int .i64 k] 23) rfl))
       have f40 : ∀ o, (w4.alloc o).cell? ⟨w.heap.size, 0, none⟩ = some (.string s) := fun o => cell_of_heap (at_alloc g4) 0
       have f41 : ∀ o, (w4.alloc o).cell? ⟨w.heap.size, 1, none⟩ = some (.int .i64 k) := fun o => cell_of_heap (at_alloc g4) 1
       have f50 : ∀ o, (w4.alloc o).cell? ⟨w3.heap.size, 0, none⟩ = some (.string X) := fun o => cell_of_heap (at_alloc g5) 0
       have f51 : ∀ o, (w4.alloc o).cell? ⟨w3.heap.size, 1, none⟩ = some (.int .i64 k) := fun o => cell_of_heap (at_alloc g5) 1
       have O4 := Lib.hid (((O3.out.trans (Old.alloc _ _)).trans (Old.alloc _ _)).trans o4)
       clear FC o4 g4 g5 G3 O3 f30 f31))
  go_ret
  exact ⟨rfl, O4.out.trans (Old.alloc _ _)⟩

theorem kh_guard (s : ByteArray) (k : Int) (w : World) (hk : (Lit.int .i64 k).wf = true) (hs : s.size ≤ 9223372036854775807) (h : sh9 s k = false) :
    Calls Tryd.prog 5 #[.agg #[.string s, .int .i64 k]] w fun e w' => e = .returned (.bool true) ∧ Old w w' := by
  have H := Lib.hid h
  clear h
  by_cases h1 : 2147483647 < s.size
  · have F : Hid (decide (s.size ≤ 2147483647) = false) := by unfold Hid; simp; omega
    go_enter Tryd.func5, Tryd.ntmps5
    go_wp2_with (go_at_call 12; refine (fits_any s k _).mono ?_; rintro e w1 ⟨rfl, o1⟩; rw [F.out]; have O1 := Lib.hid ((Old.alloc w _).trans o1); clear o1)
    go_ret
    exact ⟨rfl, O1.out⟩
  have F : Hid (decide (s.size ≤ 2147483647) = true) := by unfold Hid; simp; omega
  go_enter Tryd.func5, Tryd.ntmps5
  go_wp2_with (first
    | (go_at_call 12; refine (fits_any s k _).mono ?_; rintro e w1 ⟨rfl, o1⟩; rw [F.out]
       have g10 : w1.cell? ⟨w.heap.size, 0, none⟩ = some (.string s) := (o1.cell (by simp)).trans ((World.cell?_alloc_mark w #[.string s, .int .i64 k] _ (0, 0) 0).trans rfl)
       have g11 : w1.cell? ⟨w.heap.size, 1, none⟩ = some (.int .i64 k) := (o1.cell (by simp)).trans ((World.cell?_alloc_mark w #[.string s, .int .i64 k] _ (0, 0) 1).trans rfl)
       have O1 := Lib.hid ((Old.alloc w _).trans o1); clear o1)
    | (go_at_call 16; refine (short9_any s k _ (by omega) hk).mono ?_; rintro e w2 ⟨rfl, o2⟩; rw [H.out]
       have O2 := Lib.hid (O1.out.trans o2); clear o2))
  go_ret
  exact ⟨rfl, O2.out⟩

theorem kh_walk (s : ByteArray) (k : Int) (w : World) (hs : s.size ≤ 9223372036854775807) (hk : (Lit.int .i64 k).wf = true) :
    Calls Tryd.prog 5 #[.agg #[.string s, .int .i64 k]] w fun e w' => e = .returned (.bool true) ∧ Below w.heap.size w w' := by
  cases h : sh9 s k
  · exact kh_guard s k w hk hs h
  · have h1 : ln9 s k = true ∧ s.size ≤ 100 := by unfold sh9 at h; simpa using h
    have hq : asc9 s = true ∧ 0 ≤ k ∧ k ≤ s.size := by have := h1.1; unfold ln9 at this; simpa using this
    obtain ⟨a, rfl⟩ : ∃ a : Nat, k = a := ⟨k.toNat, by omega⟩
    exact kh_main s a w (asc9_iff.1 hq.1).1 h1.2 (by omega) h hk
end Go.Proofs.YtlfmmmbafkelhaaDoor
