/- spec.Editor in memory: it is made, read; its moves. -/
import Derived.Test.YtlfmmmbafkelhaaDoorAfterN
import Derived.Lib.Hide
import Derived.StillTailTactics
namespace Go.Proofs.YtlfmmmbafkelhaaDoor
open Go.RowKit
set_option linter.unusedVariables false
set_option linter.unusedSimpArgs false
set_option maxRecDepth 100000

/-- Block E is an Editor: its line (a row of its own), its cursor, what it keeps; neither bad nor open. -/
def ED (w : World) (E : Nat) (l : List Int) (a : Nat) (kv : Value) : Prop :=
  ∃ lb c, w.heap[E]? = some (.cells #[.slice (some ⟨lb, 0, none⟩) l.length c, .int .i64 a, kv, .bool false, .bool false] 56) ∧ LB w lb c l ∧ lb ≠ E
theorem ED.old {w w' : World} {E a : Nat} {l : List Int} {kv : Value} (h : ED w E l a kv) (o : Old w w') : ED w' E l a kv := by
  obtain ⟨lb, c, h1, h2, h3⟩ := h
  exact ⟨lb, c, (o.heap (Array.getElem?_eq_some_iff.1 h1).1).trans h1, h2.old o, h3⟩
theorem ED.set_at {w : World} {E a : Nat} {l : List Int} {kv : Value} (h : ED w E l a kv) (x : Nat) : ED (w.setCell ⟨E, 1, none⟩ (.int .i64 x)) E l x kv := by
  obtain ⟨lb, c, h1, h2, h3⟩ := h
  exact ⟨lb, c, by rw [heap_setCell_at h1]; simp, h2.other h3 _, h3⟩
theorem ED.lt {w : World} {E a : Nat} {l : List Int} {kv : Value} (h : ED w E l a kv) : E < w.heap.size := by
  obtain ⟨lb, c, h1, _⟩ := h; exact (Array.getElem?_eq_some_iff.1 h1).1
theorem LB.runesAt {w : World} {b c : Nat} {l : List Int} (h : LB w b c l) : RunesAt w (.slice (some ⟨b, 0, none⟩) l.length c) l :=
  ⟨b, 0, c, rfl, h.cap.1, h.cap.2, h.lt, fun j hj => by rw [Nat.zero_add]; exact h.cell j hj⟩

theorem newed_any (s : ByteArray) (k : Nat) (w : World) (hs : s.size ≤ 1000) (hk : k ≤ (runes s).length) :
    Calls Tryd.prog 17 #[.string s, .int .i64 k] w fun e w' => ∃ E, e = .returned (.tuple #[.pointer (some ⟨E, 0, none⟩), .bool true]) ∧ Old w w' ∧ w.heap.size ≤ E ∧ ED w' E (runes s) k (.slice none 0 0) := by
  have i1 : (k : Int) ≤ (runes s).length := by omega
  have i0 : (0 : Int) ≤ k := by omega
  go_enter Tryd.func17, Tryd.ntmps17
  go_wp2_with (refine wpList_runes rfl 9 54 21 _ s rfl rfl (by kernel_rfl) (by kernel_rfl) (by kernel_rfl) (by omega) ?_; intro v w1 o1 r1 hv1 own1
               have O1 := Lib.hid o1; have W1 := Lib.hid own1; clear o1 r1 own1; obtain ⟨vb, vc, rfl⟩ := hv1)
  go_ret2
  have hvb := own_lt W1.out
  exact ⟨w1.heap.size, rfl, O1.out.trans (Old.alloc _ _), O1.out.size, vb, vc, heap_alloc_new w1 _, LB.old (own_zero W1.out) (Old.alloc _ _), by omega⟩

theorem open_any (E a : Nat) (l : List Int) (kv : Value) (w : World) (h : ED w E l a kv) : Calls Tryd.prog 20 #[.pointer (some ⟨E, 0, none⟩)] w fun e w' => e = .returned (.bool false) ∧ w' = w := by
  obtain ⟨lb, c, h1, h2, h3⟩ := h
  have c4 : w.cell? ⟨E, 4, none⟩ = some (.bool false) := cell_of_heap h1 4
  clear h1 h2
  go_enter Tryd.func20, Tryd.ntmps20
  go_wp2_with fail
  go_ret
  exact ⟨rfl, rfl⟩
theorem bad_any (E a : Nat) (l : List Int) (kv : Value) (w : World) (h : ED w E l a kv) : Calls Tryd.prog 21 #[.pointer (some ⟨E, 0, none⟩)] w fun e w' => e = .returned (.bool false) ∧ w' = w := by
  obtain ⟨lb, c, h1, h2, h3⟩ := h
  have c3 : w.cell? ⟨E, 3, none⟩ = some (.bool false) := cell_of_heap h1 3
  clear h1 h2
  go_enter Tryd.func21, Tryd.ntmps21
  go_wp2_with fail
  go_ret
  exact ⟨rfl, rfl⟩

set_option maxHeartbeats 1000000 in
theorem eline_any (E a : Nat) (l : List Int) (kv : Value) (w : World) (h : ED w E l a kv) :
    Calls Tryd.prog 22 #[.pointer (some ⟨E, 0, none⟩)] w fun e w' => e = .returned (.agg #[.string (runesBytes l), .int .i64 a]) ∧ Old w w' := by
  have O := Lib.hid (Old.alloc w (.cells #[.string { data := #[] }, .int .i64 0] 23))
  have H := Lib.hid (h.old O.out)
  have G := Lib.hid (heap_alloc_new w (.cells #[.string { data := #[] }, .int .i64 0] 23))
  clear h
  go_enter Tryd.func22, Tryd.ntmps22
  go_wp2_with fail
  generalize w.alloc (.cells #[.string { data := #[] }, .int .i64 0] 23) = w1 at O H G ⊢
  obtain ⟨lb, c, h1, h2, h3⟩ := H.out
  have c0 : w1.cell? ⟨E, 0, none⟩ = some (.slice (some ⟨lb, 0, none⟩) l.length c) := cell_of_heap h1 0
  have c1 : w1.cell? ⟨E, 1, none⟩ = some (.int .i64 a) := cell_of_heap h1 1
  have cv := runes_back (P := Tryd.prog) w1 54 9 21 _ _ (by kernel_rfl) (by kernel_rfl) (by kernel_rfl) h2.runesAt
  have cv2 := runes_back (P := Tryd.prog) w1.drew 54 9 21 _ _ (by kernel_rfl) (by kernel_rfl) (by kernel_rfl) (h2.old (Old.drew w1)).runesAt
  have f1 : w1.cell? ⟨w.heap.size, 0, none⟩ = some (.string { data := #[] }) := cell_of_heap G.out 0
  have f2 : w1.cell? ⟨w.heap.size, 1, none⟩ = some (.int .i64 0) := cell_of_heap G.out 1
  have f3 := free_of_heap G.out 0
  have f4 := free_of_heap G.out 1
  clear h1 h2
  go_still_tail 10, (by kernel_rfl)
  change wpList _ _ _ _ _ w1.drew
  have e1 : (((w1.setCell ⟨w.heap.size, 0, none⟩ (.string (runesBytes l))).setCell ⟨w.heap.size, 1, none⟩ (.int .i64 a)).drew).heap[w.heap.size]? = some (.cells #[.string (runesBytes l), .int .i64 a] 23) := pair_set (w := w1) G.out
  have e2 := Lib.hid (((O.out.stored (p := ⟨w.heap.size, 0, none⟩) (Nat.le_refl _) (.string (runesBytes l))).stored (p := ⟨w.heap.size, 1, none⟩) (Nat.le_refl _) (.int .i64 a)).trans (Old.drew _))
  have E1 := Lib.hid e1
  clear O H G e1
  go_wp2_with fail
  generalize ((w1.setCell ⟨w.heap.size, 0, none⟩ (.string (runesBytes l))).setCell ⟨w.heap.size, 1, none⟩ (.int .i64 a)).drew = w5 at E1 e2 ⊢
  have g0 := cell_of_heap E1.out 0
  have g1 := cell_of_heap E1.out 1
  simp only [List.getElem?_toArray, List.getElem?_cons_zero, List.getElem?_cons_succ] at g0 g1
  refine bodyPost_ret (v := .agg #[.string (runesBytes l), .int .i64 a]) ?_ rfl ?_
  · simp [results, Tryd.results22, go_sem, g0, g1]
  · exact ⟨rfl, e2.out⟩

/-- What Editor.Do does of a step of its kind alone: it tells t, and the line and the cursor are l', a', what it keeps kv'. -/
def Does (E : Nat) (op : Int) (l : List Int) (a : Nat) (l' : List Int) (a' : Nat) (t : Int) : Prop :=
  ∀ (kv : Value) (w : World), ED w E l a kv → l.length ≤ 1000 → a ≤ l.length → Calls Tryd.prog 19 #[.pointer (some ⟨E, 0, none⟩), (opk op).v] w fun e w' => e = .returned (.int .i64 t) ∧ ∃ kv', ED w' E l' a' kv' ∧ Mod E E w w'

theorem do_k4 (E : Nat) (l : List Int) (a : Nat) : Does E 4 l a l 0 (-1) := by
  intro kv w h hl hal
  have HE := Lib.hid h
  have hE := h.lt
  obtain ⟨lb, c, h1, h2, h3⟩ := h
  have c0 : ∀ o, (w.alloc o).cell? ⟨E, 0, none⟩ = some (.slice (some ⟨lb, 0, none⟩) l.length c) := fun o => cell_of_heap (at_alloc h1) 0
  have c1 : ∀ o, (w.alloc o).cell? ⟨E, 1, none⟩ = some (.int .i64 a) := fun o => cell_of_heap (at_alloc h1) 1
  have c3 : ∀ o, (w.alloc o).cell? ⟨E, 3, none⟩ = some (.bool false) := fun o => cell_of_heap (at_alloc h1) 3
  have c4 : ∀ o, (w.alloc o).cell? ⟨E, 4, none⟩ = some (.bool false) := fun o => cell_of_heap (at_alloc h1) 4
  have f1 : ∀ o, (w.alloc o).frozen? ⟨E, 1, none⟩ = false := fun o => free_of_heap (at_alloc h1) 1
  clear h1 h2
  unfold KeyS.v opk
  go_enter Tryd.func19, Tryd.ntmps19
  go_wp2_with fail
  go_ret
  exact ⟨rfl, kv, (HE.out.set_at 0).old (Old.alloc _ _), ((Mod.refl E E w).stored E 1 _ (Or.inl rfl)).then_old (Old.alloc _ _)⟩

theorem do_k5 (E : Nat) (l : List Int) (a : Nat) : Does E 5 l a l l.length (-1) := by
  intro kv w h hl hal
  have HE := Lib.hid h
  have hE := h.lt
  obtain ⟨lb, c, h1, h2, h3⟩ := h
  have c0 : ∀ o, (w.alloc o).cell? ⟨E, 0, none⟩ = some (.slice (some ⟨lb, 0, none⟩) l.length c) := fun o => cell_of_heap (at_alloc h1) 0
  have c1 : ∀ o, (w.alloc o).cell? ⟨E, 1, none⟩ = some (.int .i64 a) := fun o => cell_of_heap (at_alloc h1) 1
  have c3 : ∀ o, (w.alloc o).cell? ⟨E, 3, none⟩ = some (.bool false) := fun o => cell_of_heap (at_alloc h1) 3
  have c4 : ∀ o, (w.alloc o).cell? ⟨E, 4, none⟩ = some (.bool false) := fun o => cell_of_heap (at_alloc h1) 4
  have f1 : ∀ o, (w.alloc o).frozen? ⟨E, 1, none⟩ = false := fun o => free_of_heap (at_alloc h1) 1
  clear h1 h2
  unfold KeyS.v opk
  go_enter Tryd.func19, Tryd.ntmps19
  go_wp2_with fail
  go_ret
  exact ⟨rfl, kv, (HE.out.set_at l.length).old (Old.alloc _ _), ((Mod.refl E E w).stored E 1 _ (Or.inl rfl)).then_old (Old.alloc _ _)⟩

theorem do_k2 (E : Nat) (l : List Int) (a : Nat) : Does E 2 l a l (min (a + 1) l.length) (-1) := by
  intro kv w h hl hal
  have HE := Lib.hid h
  have hE := h.lt
  obtain ⟨lb, c, h1, h2, h3⟩ := h
  have c0 : ∀ o, (w.alloc o).cell? ⟨E, 0, none⟩ = some (.slice (some ⟨lb, 0, none⟩) l.length c) := fun o => cell_of_heap (at_alloc h1) 0
  have c1 : ∀ o, (w.alloc o).cell? ⟨E, 1, none⟩ = some (.int .i64 a) := fun o => cell_of_heap (at_alloc h1) 1
  have c3 : ∀ o, (w.alloc o).cell? ⟨E, 3, none⟩ = some (.bool false) := fun o => cell_of_heap (at_alloc h1) 3
  have c4 : ∀ o, (w.alloc o).cell? ⟨E, 4, none⟩ = some (.bool false) := fun o => cell_of_heap (at_alloc h1) 4
  have f1 : ∀ o, (w.alloc o).frozen? ⟨E, 1, none⟩ = false := fun o => free_of_heap (at_alloc h1) 1
  have e1 : IntKind.i64.wrap ((a : Int) + 1) = (a : Int) + 1 := IntWalk.i64_in _ (by omega)
  clear h1 h2
  unfold KeyS.v opk
  go_enter Tryd.func19, Tryd.ntmps19
  go_wp2_with fail
  all_goals
    go_ret
    refine ⟨rfl, ⟨kv, ?_⟩, ((Mod.refl E E w).stored E 1 _ (Or.inl rfl)).then_old (Old.alloc _ _)⟩
    have R := HE.out.set_at (min (a + 1) l.length)
    first
      | (have e : (((min (a + 1) l.length) : Nat) : Int) = (l.length : Int) := by omega
         rw [e] at R; exact R.old (Old.alloc _ _))
      | (have e : (((min (a + 1) l.length) : Nat) : Int) = (a : Int) + 1 := by omega
         rw [e] at R; exact R.old (Old.alloc _ _))

theorem do_k3 (E : Nat) (l : List Int) (a : Nat) : Does E 3 l a l (a - 1) (-1) := by
  intro kv w h hl hal
  have HE := Lib.hid h
  have hE := h.lt
  obtain ⟨lb, c, h1, h2, h3⟩ := h
  have c0 : ∀ o, (w.alloc o).cell? ⟨E, 0, none⟩ = some (.slice (some ⟨lb, 0, none⟩) l.length c) := fun o => cell_of_heap (at_alloc h1) 0
  have c1 : ∀ o, (w.alloc o).cell? ⟨E, 1, none⟩ = some (.int .i64 a) := fun o => cell_of_heap (at_alloc h1) 1
  have c3 : ∀ o, (w.alloc o).cell? ⟨E, 3, none⟩ = some (.bool false) := fun o => cell_of_heap (at_alloc h1) 3
  have c4 : ∀ o, (w.alloc o).cell? ⟨E, 4, none⟩ = some (.bool false) := fun o => cell_of_heap (at_alloc h1) 4
  have f1 : ∀ o, (w.alloc o).frozen? ⟨E, 1, none⟩ = false := fun o => free_of_heap (at_alloc h1) 1
  have e1 : IntKind.i64.wrap ((a : Int) - 1) = (a : Int) - 1 := IntWalk.i64_in _ (by omega)
  clear h1 h2
  unfold KeyS.v opk
  go_enter Tryd.func19, Tryd.ntmps19
  go_wp2_with fail
  all_goals
    go_ret
    refine ⟨rfl, ⟨kv, ?_⟩, ((Mod.refl E E w).stored E 1 _ (Or.inl rfl)).then_old (Old.alloc _ _)⟩
    have R := HE.out.set_at (a - 1)
    first
      | (have e : (((a - 1) : Nat) : Int) = 0 := by omega
         rw [e] at R; exact R.old (Old.alloc _ _))
      | (have e : (((a - 1) : Nat) : Int) = (a : Int) - 1 := by omega
         rw [e] at R; exact R.old (Old.alloc _ _))
end Go.Proofs.YtlfmmmbafkelhaaDoor
