/- laws.one9 of one step. -/
import Derived.Test.YtlfmmmbafkelhaaDoorOne9
import Derived.Deep.RegionHeld3
namespace Go.Proofs.YtlfmmmbafkelhaaDoor
open Go.RowKit
set_option linter.unusedVariables false
set_option linter.unusedSimpArgs false
set_option maxRecDepth 100000

/-- The boxes of one9's arguments. -/
structure BX (w : World) (B : Nat) (s : ByteArray) (k op : Int) : Prop where
  h0 : w.heap[B]? = some (.cells #[.string s, .int .i64 k] 23)
  h1 : w.heap[B + 1]? = some (.cells #[.int .i64 op, .string { data := #[] }, .int .i64 0, .bool false, .bool false] 28)
section
variable {w w' : World} {B E : Nat} {s : ByteArray} {k op : Int}
theorem BX.old (h : BX w B s k op) (o : Old w w') : BX w' B s k op :=
  ⟨(o.heap (Array.getElem?_eq_some_iff.1 h.h0).1).trans h.h0, (o.heap (Array.getElem?_eq_some_iff.1 h.h1).1).trans h.h1⟩
theorem BX.mod (h : BX w B s k op) (m : Mod E E w w') (hE : B + 1 < E) : BX w' B s k op :=
  ⟨(m.block B (Array.getElem?_eq_some_iff.1 h.h0).1 (by omega) (by omega)).trans h.h0, (m.block (B + 1) (Array.getElem?_eq_some_iff.1 h.h1).1 (by omega) (by omega)).trans h.h1⟩
theorem BX.l0 (h : BX w B s k op) : w.cell? ⟨B, 0, none⟩ = some (.string s) := cell_of_heap h.h0 0
theorem BX.l1 (h : BX w B s k op) : w.cell? ⟨B, 1, none⟩ = some (.int .i64 k) := cell_of_heap h.h0 1
theorem BX.k0 (h : BX w B s k op) : w.cell? ⟨B + 1, 0, none⟩ = some (.int .i64 op) := cell_of_heap h.h1 0
theorem BX.k1 (h : BX w B s k op) : w.cell? ⟨B + 1, 1, none⟩ = some (.string { data := #[] }) := cell_of_heap h.h1 1
theorem BX.k2 (h : BX w B s k op) : w.cell? ⟨B + 1, 2, none⟩ = some (.int .i64 0) := cell_of_heap h.h1 2
theorem BX.k3 (h : BX w B s k op) : w.cell? ⟨B + 1, 3, none⟩ = some (.bool false) := cell_of_heap h.h1 3
theorem BX.k4 (h : BX w B s k op) : w.cell? ⟨B + 1, 4, none⟩ = some (.bool false) := cell_of_heap h.h1 4
theorem BX.lt (h : BX w B s k op) : B + 1 < w.heap.size := (Array.getElem?_eq_some_iff.1 h.h1).1
end
theorem ED.mod_ {w : World} {E a : Nat} {l : List Int} {kv : Value} (h : ED w E l a kv) : E < w.heap.size := h.lt

set_option maxHeartbeats 4000000 in
theorem one9_step (op : Int) (S1 : Nat → St) (t1 : Int) (X : ByteArray) (a' : Nat) (l' : List Int) (s : ByteArray) (k : Nat) (w : World) (ha : asc s) (hs : s.size ≤ 300) (hk : k ≤ s.size) (h9 : ln9 s k = true) (hkw : (Lit.int .i64 (k : Int)).wf = true)
    (o1 : 1 ≤ op) (o2 : op ≤ 21) (o3 : op ≠ 8) (o4 : op ≠ 19) (hop : (Lit.int .i64 op).wf = true)
    (h1 : ∀ T p b w, RB w p b (st1 s k T) → Keyed p b (opk op) (S1 T) t1 w) (ht1 : ∀ T, (S1 T).t = T) (hX : ∀ T, runesBytes (S1 T).l = X) (haT : ∀ T, (S1 T).at_ = a')
    (hd : ∀ E, Does E op (runes s) k l' a' t1) (hl' : runesBytes l' = X) :
    Calls Tryd.prog 23 #[.agg #[.string s, .int .i64 k], (opk op).v] w fun e w' => e = .returned (.bool true) ∧ Old w w' := by
  have hr : (runes s).length = s.size := by rw [runes_asc ha, length_nums]
  have H9 := Lib.hid h9
  have K9 := Lib.hid (fun W => key9_any op W o1 o2 o3 o4)
  have NE := Lib.hid (fun W => newed_any s k W (by omega) (by omega))
  have DO := Lib.hid hd
  have ON := Lib.hid (fun W => once_any (opk op) S1 t1 X a' s k W (by omega) (by omega) (by omega) h1 ht1 hX haT)
  have HR := Lib.hid hr
  clear h9 hd h1 ht1 hX haT ha hr
  unfold KeyS.v opk at *
  have HO := Lib.hid (show Old w ((w.alloc (.cells #[.string s, .int .i64 k] 23)).alloc (.cells #[.int .i64 op, .string { data := #[] }, .int .i64 0, .bool false, .bool false] 28)) from (Old.alloc w _).trans (Old.alloc _ _))
  have B0 : Hid (BX ((w.alloc (.cells #[.string s, .int .i64 k] 23)).alloc (.cells #[.int .i64 op, .string { data := #[] }, .int .i64 0, .bool false, .bool false] 28)) w.heap.size s k op) := ⟨at_alloc (at_new _ _ rfl), at_new _ _ (by simp)⟩
  go_enter Tryd.func23, Tryd.ntmps23
  go_wp2_with (first
    | (go_at_call 13; refine (line9_any s k _ (by omega) hkw).mono ?_; rintro e w1 ⟨rfl, q1⟩; rw [H9.out]
       have B1 := Lib.hid (B0.out.old q1)
       have O1 := Lib.hid (HO.out.trans q1)
       have k0 := B1.out.k0; have k1 := B1.out.k1; have k2 := B1.out.k2; have k3 := B1.out.k3; have k4 := B1.out.k4
       clear q1 B0 HO)
    | (go_at_call 18; refine (K9.out _).mono ?_; rintro e w2 ⟨rfl, q2⟩
       have B2 := Lib.hid (B1.out.old q2)
       have O2 := Lib.hid (O1.out.trans q2)
       have l0 := B2.out.l0; have l1 := B2.out.l1
       clear q2 B1 O1 k0 k1 k2 k3 k4)
    | (go_at_call 17; refine (NE.out _).mono ?_; rintro e w3 ⟨E, rfl, q3, hE, ed3⟩
       have B3 := Lib.hid (B2.out.old q3)
       have O3 := Lib.hid (O2.out.trans q3)
       have hBE : w.heap.size + 1 < E := by have := B2.out.lt; omega
       have hwE : w.heap.size ≤ E := by omega
       have ED3 := Lib.hid ed3
       have k0 := B3.out.k0; have k1 := B3.out.k1; have k2 := B3.out.k2; have k3 := B3.out.k3; have k4 := B3.out.k4
       clear q3 B2 O2 l0 l1 hE ed3 NE)
    | (go_at_call 19; refine (DO.out E _ _ ED3.out (by have := HR.out; omega) (by have := HR.out; omega)).mono ?_; rintro e w4 ⟨rfl, kv', ed4, m4⟩
       have B4 := Lib.hid (B3.out.mod m4 hBE)
       have O4 : Hid (Old w w4) := Old.mod O3.out m4 hwE hwE
       have ED4 := Lib.hid ed4
       have l0 := B4.out.l0; have l1 := B4.out.l1
       have k0 := B4.out.k0; have k1 := B4.out.k1; have k2 := B4.out.k2; have k3 := B4.out.k3; have k4 := B4.out.k4
       clear ed4 m4 ED3 B3 O3 DO)
    | (go_at_call 20; refine (open_any E _ _ _ _ ED4.out).mono ?_; rintro e w5 ⟨rfl, rfl⟩)
    | (go_at_call 40; refine (ON.out _).mono ?_; rintro e w6 ⟨rfl, q6⟩
       have O6 := Lib.hid (O4.out.trans q6)
       have ED6 := Lib.hid (ED4.out.old q6)
       clear q6 ED4 O4 B4 ON)
    | (go_at_call 21; refine (bad_any E _ _ _ _ (ED6.out.old (Old.alloc _ _))).mono ?_; rintro e w7 ⟨rfl, rfl⟩))
  have g8 := at_new w6 (.cells #[.string X, .int .i64 a'] 23) rfl
  have ED8 := Lib.hid (ED6.out.old (Old.alloc w6 (.cells #[.string X, .int .i64 a'] 23)))
  have O8 := Lib.hid (O6.out.trans (Old.alloc w6 (.cells #[.string X, .int .i64 a'] 23)))
  clear ED6 O6
  generalize w6.alloc (.cells #[.string X, .int .i64 a'] 23) = w8 at g8 ED8 O8 ⊢
  have c0 : w8.cell? ⟨w6.heap.size, 0, none⟩ = some (.string X) := cell_of_heap g8 0
  have c1 : w8.cell? ⟨w6.heap.size, 1, none⟩ = some (.int .i64 a') := cell_of_heap g8 1
  have c0' : w8.drew.cell? ⟨w6.heap.size, 0, none⟩ = some (.string X) := c0
  have c1' : w8.drew.cell? ⟨w6.heap.size, 1, none⟩ = some (.int .i64 a') := c1
  have hlt := (Array.getElem?_eq_some_iff.1 g8).1
  have ED9 := Lib.hid (ED8.out.old (Old.drew w8))
  have O9 := Lib.hid (O8.out.trans (Old.drew w8))
  clear g8 ED8 O8
  go_region_held3 (fun W => W.cell? ⟨w6.heap.size, 0, none⟩ = some (.string X) ∧ W.cell? ⟨w6.heap.size, 1, none⟩ = some (.int .i64 a'))
    (first | exact ⟨c0', c1'⟩ | exact hHeld | exact ⟨c10, c11⟩ | (go_keep; done))
    (first
      | (go_at_call 22; refine (eline_any E _ _ _ _ ED9.out).mono ?_; rintro e w10 ⟨rfl, q10⟩; rw [hl']
         have c10 := (q10.cell hlt).trans c0'
         have c11 := (q10.cell hlt).trans c1'
         have O10 := Lib.hid (O9.out.trans q10)
         clear q10))
  all_goals
    go_wp2_with fail
    go_ret
    exact ⟨rfl, O10.out⟩

theorem one9_guard (op : Int) (s : ByteArray) (k : Int) (w : World) (hs : s.size ≤ 2147483647) (hk : (Lit.int .i64 k).wf = true) (h9 : ln9 s k = false) :
    Calls Tryd.prog 23 #[.agg #[.string s, .int .i64 k], (opk op).v] w fun e w' => e = .returned (.bool true) ∧ Old w w' := by
  have H9 := Lib.hid h9
  clear h9
  have HO := Lib.hid (show Old w ((w.alloc (.cells #[.string s, .int .i64 k] 23)).alloc (.cells #[.int .i64 op, .string { data := #[] }, .int .i64 0, .bool false, .bool false] 28)) from (Old.alloc w _).trans (Old.alloc _ _))
  unfold KeyS.v opk
  go_enter Tryd.func23, Tryd.ntmps23
  go_wp2_with (go_at_call 13; refine (line9_any s k _ hs hk).mono ?_; rintro e w1 ⟨rfl, q1⟩; rw [H9.out]; have O1 := Lib.hid (HO.out.trans q1); clear q1 HO)
  go_ret
  exact ⟨rfl, O1.out⟩

/-- One step that moves. -/
theorem one9_moves (op : Int) (hop : op = 2 ∨ op = 3 ∨ op = 4 ∨ op = 5) (s : ByteArray) (k : Int) (w : World) (hs : s.size ≤ 2147483647) (hk : (Lit.int .i64 k).wf = true) :
    Calls Tryd.prog 23 #[.agg #[.string s, .int .i64 k], (opk op).v] w fun e w' => e = .returned (.bool true) ∧ Old w w' := by
  cases h : ln9 s k
  · exact one9_guard op s k w hs hk h
  · have hq : asc9 s = true ∧ 0 ≤ k ∧ k ≤ s.size := by have := h; unfold ln9 at this; simpa using this
    have ha := asc9_iff.1 hq.1
    obtain ⟨a, rfl⟩ : ∃ a : Nat, k = a := ⟨k.toNat, by omega⟩
    have hb : runesBytes (runes s) = s := by rw [runes_asc ha.1, runesBytes_nums ha.1]
    rcases hop with rfl | rfl | rfl | rfl
    · exact one9_step 2 (fun T => { st1 s a T with at_ := min (a + 1) (runes s).length }) (-1) s (min (a + 1) (runes s).length) (runes s) s a w ha.1 ha.2 (by omega) h hk (by omega) (by omega) (by omega) (by omega) (by decide) (fun T p b w h => keyed_k2 p b _ _ _ _ _ w h) (fun T => rfl) (fun T => hb) (fun T => rfl) (fun E => do_k2 E _ a) hb
    · exact one9_step 3 (fun T => { st1 s a T with at_ := a - 1 }) (-1) s (a - 1) (runes s) s a w ha.1 ha.2 (by omega) h hk (by omega) (by omega) (by omega) (by omega) (by decide) (fun T p b w h => keyed_k3 p b _ _ _ _ _ w h) (fun T => rfl) (fun T => hb) (fun T => rfl) (fun E => do_k3 E _ a) hb
    · exact one9_step 4 (fun T => { st1 s a T with at_ := 0 }) (-1) s 0 (runes s) s a w ha.1 ha.2 (by omega) h hk (by omega) (by omega) (by omega) (by omega) (by decide) (fun T p b w h => keyed_k4 p b _ _ _ _ _ w h) (fun T => rfl) (fun T => hb) (fun T => rfl) (fun E => do_k4 E _ a) hb
    · exact one9_step 5 (fun T => { st1 s a T with at_ := (runes s).length }) (-1) s (runes s).length (runes s) s a w ha.1 ha.2 (by omega) h hk (by omega) (by omega) (by omega) (by omega) (by decide) (fun T p b w h => keyed_k5 p b _ _ _ _ _ w h) (fun T => rfl) (fun T => hb) (fun T => rfl) (fun E => do_k5 E _ a) hb
end Go.Proofs.YtlfmmmbafkelhaaDoor
