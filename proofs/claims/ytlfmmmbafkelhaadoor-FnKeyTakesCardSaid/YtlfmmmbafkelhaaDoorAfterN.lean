/- laws.after9 of one step, of two, of three. -/
import Derived.Test.YtlfmmmbafkelhaaDoorAfter
namespace Go.Proofs.YtlfmmmbafkelhaaDoor
open Go.RowKit
set_option linter.unusedVariables false
set_option linter.unusedSimpArgs false
set_option maxRecDepth 100000

theorem cs_cell {w : World} {lb : Nat} {l : List Value} {fr : Nat × Nat} (h : w.heap[lb]? = some (.cells l.toArray 28 fr)) (k : KeyS) (a : Nat) (hl : ∀ i, i < 5 → l[a + i]? = some (k.cs.getD i undef)) : ∀ i, i < 5 → w.cell? ⟨lb, a + i, none⟩ = some (k.cs.getD i undef) := by
  intro i hi
  rw [cell_of_heap h]
  simpa using hl i hi

theorem cs_get (k : KeyS) : ∀ i, i < 5 → k.cs[i]? = some (k.cs.getD i undef) := by
  intro i hi
  have hl : i < k.cs.length := hi
  simp [List.getD, List.getElem?_eq_getElem hl]

/-- The line's state behind SetWithIdx. -/
def st1 (s : ByteArray) (k T : Nat) : St := ⟨runes s, k, [], T⟩

theorem after_one (lb : Nat) (k1 : KeyS) (S1 : Nat → St) (t1 : Int) (s : ByteArray) (k : Nat) (w : World) (hc : w.heap[lb]? = some (.cells k1.cs.toArray 28)) (hs : s.size ≤ 1000) (hk : k ≤ (runes s).length) (hl : (runes s).length ≤ 1000)
    (h1 : ∀ T p b w, RB w p b (st1 s k T) → Keyed p b k1 (S1 T) t1 w) (ht1 : ∀ T, (S1 T).t = T) :
    Calls Tryd.prog 14 #[.agg #[.string s, .int .i64 k], .slice (some ⟨lb, 0, none⟩) 1 1] w fun e w' => ∃ T, e = .returned (.tuple #[.agg #[.string (runesBytes (S1 T).l), .int .i64 (S1 T).at_], .bool true]) ∧ Old w w' := by
  refine after_any lb 1 (fun j => if j = 0 then setk s k else k1) (fun T j => if j ≤ 1 then st1 s k T else S1 T) (fun j => if j = 0 then -1 else t1) s k w ?_ (Nat.le_refl _) (by omega) rfl rfl (fun T => rfl) hs hk hl ?_ ?_
  · intro j hj i hi
    obtain rfl : j = 0 := by omega
    have := cs_cell hc k1 0 (fun i hi => by rw [Nat.zero_add]; exact cs_get k1 i hi) i hi
    simpa using this
  · intro T j h1' h2 p b w hr
    obtain rfl : j = 1 := by omega
    exact h1 T p b w hr
  · intro T j
    show (if j ≤ 1 then st1 s k T else S1 T).t = T
    split
    · rfl
    · exact ht1 T

theorem after_two (lb : Nat) (k1 k2 : KeyS) (S1 S2 : Nat → St) (t1 t2 : Int) (s : ByteArray) (k : Nat) (w : World) (hc : w.heap[lb]? = some (.cells (k1.cs ++ k2.cs).toArray 28)) (hs : s.size ≤ 1000) (hk : k ≤ (runes s).length) (hl : (runes s).length ≤ 1000)
    (h1 : ∀ T p b w, RB w p b (st1 s k T) → Keyed p b k1 (S1 T) t1 w) (h2 : ∀ T p b w, RB w p b (S1 T) → Keyed p b k2 (S2 T) t2 w) (ht1 : ∀ T, (S1 T).t = T) (ht2 : ∀ T, (S2 T).t = T) :
    Calls Tryd.prog 14 #[.agg #[.string s, .int .i64 k], .slice (some ⟨lb, 0, none⟩) 2 2] w fun e w' => ∃ T, e = .returned (.tuple #[.agg #[.string (runesBytes (S2 T).l), .int .i64 (S2 T).at_], .bool true]) ∧ Old w w' := by
  refine after_any lb 2 (fun j => if j = 0 then setk s k else if j = 1 then k1 else k2) (fun T j => if j ≤ 1 then st1 s k T else if j = 2 then S1 T else S2 T) (fun j => if j = 0 then -1 else if j = 1 then t1 else t2) s k w ?_ (by omega) (by omega) rfl rfl (fun T => rfl) hs hk hl ?_ ?_
  · intro j hj i hi
    have hj2 : j = 0 ∨ j = 1 := by omega
    rcases hj2 with rfl | rfl
    · have := cs_cell hc k1 0 (fun i hi => by rw [Nat.zero_add, List.getElem?_append_left (by rw [KeyS.cs_length]; exact hi)]; exact cs_get k1 i hi) i hi
      simpa using this
    · have := cs_cell hc k2 5 (fun i hi => by rw [List.getElem?_append_right (by rw [KeyS.cs_length]; omega), KeyS.cs_length, Nat.add_sub_cancel_left]; exact cs_get k2 i hi) i hi
      simpa using this
  · intro T j h1' h2' p b w hr
    have hj2 : j = 1 ∨ j = 2 := by omega
    rcases hj2 with rfl | rfl
    · exact h1 T p b w hr
    · exact h2 T p b w hr
  · intro T j
    show (if j ≤ 1 then st1 s k T else if j = 2 then S1 T else S2 T).t = T
    split
    · rfl
    · split
      · exact ht1 T
      · exact ht2 T

theorem after_three (lb : Nat) (k1 k2 k3 : KeyS) (S1 S2 S3 : Nat → St) (t1 t2 t3 : Int) (s : ByteArray) (k : Nat) (w : World) (hc : w.heap[lb]? = some (.cells (k1.cs ++ (k2.cs ++ k3.cs)).toArray 28)) (hs : s.size ≤ 1000) (hk : k ≤ (runes s).length) (hl : (runes s).length ≤ 1000)
    (h1 : ∀ T p b w, RB w p b (st1 s k T) → Keyed p b k1 (S1 T) t1 w) (h2 : ∀ T p b w, RB w p b (S1 T) → Keyed p b k2 (S2 T) t2 w) (h3 : ∀ T p b w, RB w p b (S2 T) → Keyed p b k3 (S3 T) t3 w) (ht1 : ∀ T, (S1 T).t = T) (ht2 : ∀ T, (S2 T).t = T) (ht3 : ∀ T, (S3 T).t = T) :
    Calls Tryd.prog 14 #[.agg #[.string s, .int .i64 k], .slice (some ⟨lb, 0, none⟩) 3 3] w fun e w' => ∃ T, e = .returned (.tuple #[.agg #[.string (runesBytes (S3 T).l), .int .i64 (S3 T).at_], .bool true]) ∧ Old w w' := by
  refine after_any lb 3 (fun j => if j = 0 then setk s k else if j = 1 then k1 else if j = 2 then k2 else k3) (fun T j => if j ≤ 1 then st1 s k T else if j = 2 then S1 T else if j = 3 then S2 T else S3 T) (fun j => if j = 0 then -1 else if j = 1 then t1 else if j = 2 then t2 else t3) s k w ?_ (by omega) (by omega) rfl rfl (fun T => rfl) hs hk hl ?_ ?_
  · intro j hj i hi
    have hj2 : j = 0 ∨ j = 1 ∨ j = 2 := by omega
    rcases hj2 with rfl | rfl | rfl
    · have := cs_cell hc k1 0 (fun i hi => by rw [Nat.zero_add, List.getElem?_append_left (by rw [KeyS.cs_length]; exact hi)]; exact cs_get k1 i hi) i hi
      simpa using this
    · have := cs_cell hc k2 5 (fun i hi => by rw [List.getElem?_append_right (by rw [KeyS.cs_length]; omega), KeyS.cs_length, Nat.add_sub_cancel_left, List.getElem?_append_left (by rw [KeyS.cs_length]; exact hi)]; exact cs_get k2 i hi) i hi
      simpa using this
    · have := cs_cell hc k3 10 (fun i hi => by rw [List.getElem?_append_right (by rw [KeyS.cs_length]; omega), KeyS.cs_length, show 10 + i - 5 = 5 + i by omega, List.getElem?_append_right (by rw [KeyS.cs_length]; omega), KeyS.cs_length, Nat.add_sub_cancel_left]; exact cs_get k3 i hi) i hi
      simpa using this
  · intro T j h1' h2' p b w hr
    have hj2 : j = 1 ∨ j = 2 ∨ j = 3 := by omega
    rcases hj2 with rfl | rfl | rfl
    · exact h1 T p b w hr
    · exact h2 T p b w hr
    · exact h3 T p b w hr
  · intro T j
    show (if j ≤ 1 then st1 s k T else if j = 2 then S1 T else if j = 3 then S2 T else S3 T).t = T
    split
    · rfl
    · split
      · exact ht1 T
      · split
        · exact ht2 T
        · exact ht3 T
end Go.Proofs.YtlfmmmbafkelhaaDoor
