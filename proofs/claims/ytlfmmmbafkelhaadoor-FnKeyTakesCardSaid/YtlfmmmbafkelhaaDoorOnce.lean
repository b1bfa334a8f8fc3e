/- impl.KeyedOnce: one step on a line. -/
import Derived.Test.YtlfmmmbafkelhaaDoorAfterN
import Derived.Deep.RegionHeld3
namespace Go.Proofs.YtlfmmmbafkelhaaDoor
open Go.RowKit
set_option linter.unusedVariables false
set_option linter.unusedSimpArgs false
set_option maxRecDepth 100000

theorem all_two (lb : Nat) (k1 : KeyS) (S1 : Nat → St) (t1 : Int) (s : ByteArray) (k : Nat) (w : World) (hc : w.heap[lb]? = some (.cells ((setk s k).cs ++ k1.cs).toArray 28)) (hs : s.size ≤ 1000) (hk : k ≤ (runes s).length) (hl : (runes s).length ≤ 1000)
    (h1 : ∀ T p b w, RB w p b (st1 s k T) → Keyed p b k1 (S1 T) t1 w) (ht1 : ∀ T, (S1 T).t = T) :
    Calls Tryd.prog 31 #[.slice (some ⟨lb, 0, none⟩) 2 2] w fun e w' => ∃ tg tc T, e = .returned (.tuple #[.agg #[.string (runesBytes (S1 T).l), .int .i64 (S1 T).at_], .slice (some ⟨tg, 0, none⟩) 2 tc, .bool true]) ∧ Old w w' ∧ w'.cell? ⟨tg, 1, none⟩ = some (.int .i64 t1) ∧ w.heap.size ≤ tg := by
  refine (all_any (.slice (some ⟨lb, 0, none⟩) 2 2) 2 (fun j => if j = 0 then setk s k else k1) (fun T j => if j ≤ 1 then st1 s k T else S1 T) (fun j => if j = 0 then -1 else t1) s k w ⟨lb, 0, 2, rfl, Nat.le_refl _, by unfold maxLen; omega, ?_⟩ (by omega) (by omega) rfl rfl (fun T => rfl) hs hk hl ?_ ?_).mono ?_
  · intro j hj i hi
    have hj2 : j = 0 ∨ j = 1 := by omega
    rcases hj2 with rfl | rfl
    · have := cs_cell hc (setk s k) 0 (fun i hi => by rw [Nat.zero_add, List.getElem?_append_left (by rw [KeyS.cs_length]; exact hi)]; exact cs_get _ i hi) i hi
      simpa using this
    · have := cs_cell hc k1 5 (fun i hi => by rw [List.getElem?_append_right (by rw [KeyS.cs_length]; omega), KeyS.cs_length, Nat.add_sub_cancel_left]; exact cs_get k1 i hi) i hi
      simpa using this
  · intro T j h1' h2 p b w hr
    obtain rfl : j = 1 := by omega
    exact h1 T p b w hr
  · intro T j
    show (if j ≤ 1 then st1 s k T else S1 T).t = T
    split
    · rfl
    · exact ht1 T
  · rintro e w' ⟨tv, T, rfl, o, hown⟩
    obtain ⟨tg, tc, rfl⟩ := own_some hown (by omega)
    refine ⟨tg, tc, T, rfl, o, ?_, (own_lt hown).1⟩
    rw [own_cell hown 1 (by omega)]
    rfl

set_option maxHeartbeats 2000000 in
theorem once_any (k1 : KeyS) (S1 : Nat → St) (t1 : Int) (X : ByteArray) (a : Nat) (s : ByteArray) (k : Nat) (w : World) (hs : s.size ≤ 1000) (hk : k ≤ (runes s).length) (hl : (runes s).length ≤ 1000)
    (h1 : ∀ T p b w, RB w p b (st1 s k T) → Keyed p b k1 (S1 T) t1 w) (ht1 : ∀ T, (S1 T).t = T) (hX : ∀ T, runesBytes (S1 T).l = X) (ha : ∀ T, (S1 T).at_ = a) :
    Calls Tryd.prog 40 #[.agg #[.string s, .int .i64 k], k1.v] w fun e w' => e = .returned (.tuple #[.agg #[.string X, .int .i64 a], .int .i64 t1, .bool true]) ∧ Old w w' := by
  have C := Lib.hid (fun lb W hc => all_two lb k1 S1 t1 s k W hc hs hk hl h1 ht1)
  have HX := Lib.hid hX
  have HA := Lib.hid ha
  clear h1 ht1 hX ha
  obtain ⟨op, tx, nn, f, g⟩ := k1
  unfold KeyS.v
  go_enter Tryd.func40, Tryd.ntmps40
  go_wp2_with (go_at_call 31; refine (C.out _ _ (at_new _ _ (by simp))).mono ?_; rintro e w2 ⟨tg, tc, T, rfl, o2, ct, htg⟩; rw [HX.out, HA.out]
               have g2 := (o2.heap (by simp <;> omega)).trans (at_alloc (at_new ((w.alloc (.cells #[.string s, .int .i64 k] 23)).alloc (.cells #[.int .i64 op, .string tx, .int .i64 nn, .bool f, .bool g] 28)) (.cells #[.string { data := #[] }, .int .i64 0] 23) (k := w.heap.size + 1 + 1) (by simp)))
               have G2 := Lib.hid g2
               have O2 := Lib.hid ((((Old.alloc w _).trans (Old.alloc _ _)).trans (Old.alloc _ _)).trans ((Old.alloc _ _).trans o2))
               have htl := World.block_lt_of_cell? w2 _ ct
               have CT := Lib.hid ct
               have n2 : ¬ w.heap.size + 1 + 1 = tg := by simp at htg; omega
               clear C o2 g2 ct htg)
  have g4 := at_alloc (o := (.cells #[.string X, .int .i64 a] 23)) G2.out
  have g7 := at_new w2 (.cells #[.string X, .int .i64 a] 23) rfl
  have c8 := ((Old.alloc w2 (.cells #[.string X, .int .i64 a] 23)).cell htl).trans CT.out
  have O5 := Lib.hid (O2.out.trans (Old.alloc w2 (.cells #[.string X, .int .i64 a] 23)))
  have n1 : ¬ w.heap.size + 1 + 1 = w2.heap.size := by have := (Array.getElem?_eq_some_iff.1 G2.out).1; omega
  clear G2 O2 CT htl
  generalize w2.alloc (.cells #[.string X, .int .i64 a] 23) = w5 at g4 g7 c8 O5 ⊢
  have f1 : w5.cell? ⟨w.heap.size + 1 + 1, 0, none⟩ = some (.string { data := #[] }) := cell_of_heap g4 0
  have f2 : w5.cell? ⟨w.heap.size + 1 + 1, 1, none⟩ = some (.int .i64 0) := cell_of_heap g4 1
  have f3 := free_of_heap g4 0
  have f4 := free_of_heap g4 1
  have c0 : w5.cell? ⟨w2.heap.size, 0, none⟩ = some (.string X) := cell_of_heap g7 0
  have c1 : w5.cell? ⟨w2.heap.size, 1, none⟩ = some (.int .i64 a) := cell_of_heap g7 1
  have G4 := Lib.hid g4
  clear g4 g7
  go_region_held3 (fun W => W.cell? ⟨w2.heap.size, 0, none⟩ = some (.string X) ∧ W.cell? ⟨w2.heap.size, 1, none⟩ = some (.int .i64 a) ∧ W.cell? ⟨tg, 1, none⟩ = some (.int .i64 t1))
    (first | exact ⟨c0, c1, c8⟩ | exact hHeld | (go_keep; done))
    (first | (go_at_call 100000; skip))
  all_goals
    go_wp2_with fail
    have e1 : (((w5.setCell ⟨w.heap.size + 1 + 1, 0, none⟩ (.string X)).setCell ⟨w.heap.size + 1 + 1, 1, none⟩ (.int .i64 a)).drew).heap[w.heap.size + 1 + 1]? = some (.cells #[.string X, .int .i64 a] 23) := pair_set (w := w5) G4.out
    have e2 := Lib.hid (((O5.out.stored (p := ⟨w.heap.size + 1 + 1, 0, none⟩) (by simp; omega) (.string X)).stored (p := ⟨w.heap.size + 1 + 1, 1, none⟩) (by simp; omega) (.int .i64 a)).trans (Old.drew _))
    clear f1 f2 f3 f4 c0 c1 c8 G4 O5
    generalize ((w5.setCell ⟨w.heap.size + 1 + 1, 0, none⟩ (.string X)).setCell ⟨w.heap.size + 1 + 1, 1, none⟩ (.int .i64 a)).drew = w6 at e1 e2 ⊢
    have g0 := cell_of_heap e1 0
    have g1 := cell_of_heap e1 1
    simp only [List.getElem?_toArray, List.getElem?_cons_zero, List.getElem?_cons_succ] at g0 g1
    refine bodyPost_ret (v := .tuple #[.agg #[.string X, .int .i64 a], .int .i64 t1, .bool true]) ?_ rfl ?_
    · simp [results, Tryd.results40, go_sem, g0, g1]
    · exact ⟨rfl, e2.out⟩
end Go.Proofs.YtlfmmmbafkelhaaDoor
