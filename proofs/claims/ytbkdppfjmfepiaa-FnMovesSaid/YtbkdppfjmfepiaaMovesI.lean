/- impl.Moves' function within caught: the four places into the caller's variables. (Printed by mkmovesi.py.) -/
import Derived.Test.YtbkdppfjmfepiaaMovesG
import Derived.Test.YtbkdppfjmfepiaaAnyX
import Derived.Test.YtbkdppfjmfepiaaStepA
namespace Go.Proofs.Ytbkdppfjmfepiaa
open Go.RowKit
set_option linter.unusedVariables false
set_option linter.unusedSimpArgs false
set_option linter.unnecessarySimpa false
set_option maxRecDepth 100000

/-- All stays but some blocks. -/
structure Save (E : List Nat) (w w' : World) : Prop where
  os : w'.os = w.os
  tape : w'.tape = w.tape
  output : w'.output = w.output
  size : w.heap.size ≤ w'.heap.size
  block : ∀ q, q < w.heap.size → q ∉ E → w'.heap[q]? = w.heap[q]?
theorem Save.of_old {E : List Nat} {w w' : World} (o : Old w w') : Save E w w' := ⟨Below.os o, Below.tape o, Below.output o, o.size, fun q h _ => Below.block o q h⟩
theorem Save.trans {E : List Nat} {a b c : World} (h : Save E a b) (g : Save E b c) : Save E a c :=
  ⟨g.os.trans h.os, g.tape.trans h.tape, g.output.trans h.output, Nat.le_trans h.size g.size, fun q hq hn => (g.block q (Nat.lt_of_lt_of_le hq h.size) hn).trans (h.block q hq hn)⟩
theorem Save.set {E : List Nat} {b : Nat} (w : World) (i : Nat) (v : Value) (hb : b ∈ E) : Save E w (w.setCell ⟨b, i, none⟩ v) :=
  ⟨rfl, rfl, rfl, by simp [World.setCell], fun q _ hn => Below.heap_setCell w ⟨b, i, none⟩ v q (by intro e; apply hn; simp at e; rw [e]; exact hb)⟩
theorem Save.heap {E : List Nat} {w w' : World} {q : Nat} {o : Obj} (h : Save E w w') (hn : q ∉ E) (hq : w.heap[q]? = some o) : w'.heap[q]? = some o := (h.block q (Array.getElem?_eq_some_iff.1 hq).1 hn).trans hq
theorem Save.cell {E : List Nat} {w w' : World} {q j : Nat} {v : Value} (h : Save E w w') (hn : q ∉ E) (hq : w.cell? ⟨q, j, none⟩ = some v) : w'.cell? ⟨q, j, none⟩ = some v := by
  have hl := World.block_lt_of_cell? w _ hq
  rw [← hq]
  unfold World.cell?
  rw [h.block q hl hn]
theorem Save.old {E : List Nat} {a w w' : World} (o : Old a w) (h : Save E w w') (hE : ∀ q ∈ E, a.heap.size ≤ q) : Old a w' :=
  ⟨h.os.trans (Below.os o), h.tape.trans (Below.tape o), h.output.trans (Below.output o), Nat.le_trans o.size h.size, fun q hq => (h.block q (Nat.lt_of_lt_of_le hq o.size) (fun hm => by have := hE q hm; omega)).trans (Below.block o q hq)⟩
/-- A variable of one number. -/
def IV (w : World) (b : Nat) (v : Int) : Prop := w.heap[b]? = some (.cells #[.int .i64 v] 3 (0, 0))
theorem IV.cell {w : World} {b : Nat} {v : Int} (h : IV w b v) : w.cell? ⟨b, 0, none⟩ = some (.int .i64 v) := by unfold IV at h; simp [World.cell?, h]
theorem IV.frozen {w : World} {b : Nat} {v : Int} (h : IV w b v) : w.frozen? ⟨b, 0, none⟩ = false := by unfold IV at h; simp [World.frozen?, h]
theorem IV.set {w : World} {b : Nat} {v : Int} (h : IV w b v) (x : Int) : IV (w.setCell ⟨b, 0, none⟩ (.int .i64 x)) b x := by
  unfold IV at *
  have hlt := (Array.getElem?_eq_some_iff.1 h).1
  have hv := (Array.getElem?_eq_some_iff.1 h).2
  unfold World.setCell
  rw [Array.getElem?_eq_getElem (by simpa using hlt), Array.getElem_modify]
  simp [hv]
theorem IV.far {w : World} {b q : Nat} {v : Int} (h : IV w b v) (x : Value) (hq : b ≠ q) : IV (w.setCell ⟨q, 0, none⟩ x) b v := by
  unfold IV at *
  rw [Below.heap_setCell w ⟨q, 0, none⟩ x b (by simpa using hq)]; exact h
theorem IV.old {w w' : World} {b : Nat} {v : Int} (h : IV w b v) (o : Old w w') : IV w' b v := (o.heap (Array.getElem?_eq_some_iff.1 h).1).trans h

/-- Within impl.Moves' function. -/
def TV (W : World) (p : Nat) (l : Bs) (k vx vn vc n c : Nat) (w : World) : Prop :=
  w.cell? ⟨vx, 0, none⟩ = some (.pointer (some ⟨p, 0, none⟩)) ∧ w.cell? ⟨vn, 0, none⟩ = some (.int .i64 n) ∧ w.cell? ⟨vc, 0, none⟩ = some (.int .i64 c) ∧ DP w p l k ∧ Old W w
theorem TV.old {W w w' : World} {p : Nat} {l : Bs} {k vx vn vc n c : Nat} (h : TV W p l k vx vn vc n c w) (o : Old w w') : TV W p l k vx vn vc n c w' :=
  ⟨(o.cell (World.block_lt_of_cell? w _ h.1)).trans h.1, (o.cell (World.block_lt_of_cell? w _ h.2.1)).trans h.2.1, (o.cell (World.block_lt_of_cell? w _ h.2.2.1)).trans h.2.2.1, h.2.2.2.1.old o, h.2.2.2.2.trans o⟩

def WM (i : Nat) (v : Value) (w : World) : Prop := True
def blkM (i : Nat) (v : Value) : Option Nat := none
def VM6 (l : Bs) (k p n c : Nat) (i : Nat) (v : Value) : Prop := match i with | 0 => v = .pointer (some ⟨p, 0, none⟩) | 1 => v = .int .i64 n | 2 => v = .int .i64 (-((min n (lineB l k).length : Nat) : Int)) | 3 => v = .pointer (some ⟨p, 0, none⟩) | 4 => v = .int .i64 n | 5 => v = .int .i64 (min n (lineA l k).length : Nat) | _ => True
def VM8 (l : Bs) (k p n c : Nat) (i : Nat) (v : Value) : Prop := match i with | 0 => v = .pointer (some ⟨p, 0, none⟩) | 1 => v = .int .i64 n | 2 => v = .int .i64 c | 3 => v = .int .i64 ((idxP l (row l k - n) c : Int) - (k : Int)) | 4 => v = .pointer (some ⟨p, 0, none⟩) | 5 => v = .int .i64 n | 6 => v = .int .i64 c | 7 => v = .int .i64 ((idxP l (row l k + n) c : Int) - (k : Int)) | _ => True

set_option maxHeartbeats 2000000 in
theorem mv1_any (vx vn vl vr vc vu vd p : Nat) (l : Bs) (k n c : Nat) (w : World) (hx : w.cell? ⟨vx, 0, none⟩ = some (.pointer (some ⟨p, 0, none⟩))) (hn : w.cell? ⟨vn, 0, none⟩ = some (.int .i64 n)) (hc : w.cell? ⟨vc, 0, none⟩ = some (.int .i64 c))
    (D : DP w p l k) (hk : k ≤ l.length) (ok : okT l) (i1 i2 i3 i4 : Int) (h1 : IV w vl i1) (h2 : IV w vr i2) (h3 : IV w vu i3) (h4 : IV w vd i4) (d12 : vl ≠ vr) (d13 : vl ≠ vu) (d14 : vl ≠ vd) (d23 : vr ≠ vu) (d24 : vr ≠ vd) (d34 : vu ≠ vd)
    (nx : vx ∉ [vl, vr, vu, vd]) (nn : vn ∉ [vl, vr, vu, vd]) (nc : vc ∉ [vl, vr, vu, vd]) (np : p ∉ [vl, vr, vu, vd]) (bn : n ≤ 2000) (bc : c ≤ 2000) (hb : row l k + n < (splitL l).length) :
    Calls Try.prog 58 #[.pointer (some ⟨vx, 0, none⟩), .pointer (some ⟨vn, 0, none⟩), .pointer (some ⟨vl, 0, none⟩), .pointer (some ⟨vr, 0, none⟩), .pointer (some ⟨vc, 0, none⟩), .pointer (some ⟨vu, 0, none⟩), .pointer (some ⟨vd, 0, none⟩)] w fun e w' =>
      e = .returned (.tuple #[]) ∧ Save [vl, vr, vu, vd] w w' ∧ IV w' vl (-((min n (lineB l k).length : Nat) : Int)) ∧ IV w' vr (min n (lineA l k).length : Nat) ∧ IV w' vu ((idxP l (row l k - n) c : Int) - (k : Int)) ∧ IV w' vd ((idxP l (row l k + n) c : Int) - (k : Int)) := by
  have OK := Lib.hid ok
  obtain ⟨W, hW⟩ : ∃ W, W = w := ⟨_, rfl⟩
  have T0 : Hid (TV W p l k vx vn vc n c w.drew) := TV.old (⟨hx, hn, hc, D, by rw [hW]; exact Old.refl _⟩) (Old.drew _)
  have H1 := Lib.hid h1
  have H2 := Lib.hid h2
  have H3 := Lib.hid h3
  have H4 := Lib.hid h4
  have HW := Lib.hid hW
  clear hx hn hc D ok h1 h2 h3 h4 hW
  go_enter Try.func58, Try.ntmps58
  go_upto_region 0 with fail
  refine wp_region_noPanic ?_
  refine wp_region_X (TV W p l k vx vn vc n c) (VM6 l k p n c) (WM) (fun j => decide (6 ≤ j)) (blkM) 6 2 (fun _ _ _ _ h _ => h) (by kernel_rfl) T0.out rfl ?_
  refine wpX_take (i := 0) rfl (by kernel_rfl) (fun _ => .pointer (some ⟨p, 0, none⟩)) (fun _ => ⟨rfl, fun b h => by cases h⟩) (by kernel_rfl) (by kernel_rfl) (by kernel_rfl) (by kernel_rfl) rfl ⟨by rfl, ?_⟩ ?_
  · (intro w hT; have h0 := hT.1; have h1 := hT.2.1; have h2 := hT.2.2.1; go_simp; exact LandsX.value ⟨hT, rfl, trivial, Old.refl _, fun b h => by cases h⟩)
  intro v0 hv0 hf0
  obtain rfl : v0 = _ := hv0
  try simp only [Act.put, List.getElem_toArray, List.getElem_cons_succ, List.getElem_cons_zero, List.setIfInBounds_toArray, List.set_cons_zero, List.set_cons_succ]
  refine wpX_take (i := 1) rfl (by kernel_rfl) (fun _ => .int .i64 n) (fun _ => ⟨rfl, fun b h => by cases h⟩) (by kernel_rfl) (by kernel_rfl) (by kernel_rfl) (by kernel_rfl) rfl ⟨by rfl, ?_⟩ ?_
  · (intro w hT; have h0 := hT.1; have h1 := hT.2.1; have h2 := hT.2.2.1; go_simp; exact LandsX.value ⟨hT, rfl, trivial, Old.refl _, fun b h => by cases h⟩)
  intro v1 hv1 hf1
  obtain rfl : v1 = _ := hv1
  try simp only [Act.put, List.getElem_toArray, List.getElem_cons_succ, List.getElem_cons_zero, List.setIfInBounds_toArray, List.set_cons_zero, List.set_cons_succ]
  refine wpX_take (i := 2) rfl (by kernel_rfl) (fun _ => .int .i64 (-((min n (lineB l k).length : Nat) : Int))) (fun _ => ⟨rfl, fun b h => by cases h⟩) (by kernel_rfl) (by kernel_rfl) (by kernel_rfl) (by kernel_rfl) rfl ⟨by rfl, ?_⟩ ?_
  · (intro w hT; go_simp; exact LandsX.enter ((left_any p l k _ hT.2.2.2.1 hk OK.out n (by omega)).mono fun e w' h => by obtain ⟨he, o⟩ := h; exact ⟨_, he, hT.old o, rfl, trivial, o, fun b h => by cases h⟩))
  intro v2 hv2 hf2
  obtain rfl : v2 = _ := hv2
  try simp only [Act.put, List.getElem_toArray, List.getElem_cons_succ, List.getElem_cons_zero, List.setIfInBounds_toArray, List.set_cons_zero, List.set_cons_succ]
  refine wpX_take (i := 3) rfl (by kernel_rfl) (fun _ => .pointer (some ⟨p, 0, none⟩)) (fun _ => ⟨rfl, fun b h => by cases h⟩) (by kernel_rfl) (by kernel_rfl) (by kernel_rfl) (by kernel_rfl) rfl ⟨by rfl, ?_⟩ ?_
  · (intro w hT; have h0 := hT.1; have h1 := hT.2.1; have h2 := hT.2.2.1; go_simp; exact LandsX.value ⟨hT, rfl, trivial, Old.refl _, fun b h => by cases h⟩)
  intro v3 hv3 hf3
  obtain rfl : v3 = _ := hv3
  try simp only [Act.put, List.getElem_toArray, List.getElem_cons_succ, List.getElem_cons_zero, List.setIfInBounds_toArray, List.set_cons_zero, List.set_cons_succ]
  refine wpX_take (i := 4) rfl (by kernel_rfl) (fun _ => .int .i64 n) (fun _ => ⟨rfl, fun b h => by cases h⟩) (by kernel_rfl) (by kernel_rfl) (by kernel_rfl) (by kernel_rfl) rfl ⟨by rfl, ?_⟩ ?_
  · (intro w hT; have h0 := hT.1; have h1 := hT.2.1; have h2 := hT.2.2.1; go_simp; exact LandsX.value ⟨hT, rfl, trivial, Old.refl _, fun b h => by cases h⟩)
  intro v4 hv4 hf4
  obtain rfl : v4 = _ := hv4
  try simp only [Act.put, List.getElem_toArray, List.getElem_cons_succ, List.getElem_cons_zero, List.setIfInBounds_toArray, List.set_cons_zero, List.set_cons_succ]
  refine wpX_take (i := 5) rfl (by kernel_rfl) (fun _ => .int .i64 (min n (lineA l k).length : Nat)) (fun _ => ⟨rfl, fun b h => by cases h⟩) (by kernel_rfl) (by kernel_rfl) (by kernel_rfl) (by kernel_rfl) rfl ⟨by rfl, ?_⟩ ?_
  · (intro w hT; go_simp; exact LandsX.enter ((right_any9 p l k _ hT.2.2.2.1 hk OK.out n (by omega)).mono fun e w' h => by obtain ⟨he, o⟩ := h; exact ⟨_, he, hT.old o, rfl, trivial, o, fun b h => by cases h⟩))
  intro v5 hv5 hf5
  obtain rfl : v5 = _ := hv5
  try simp only [Act.put, List.getElem_toArray, List.getElem_cons_succ, List.getElem_cons_zero, List.setIfInBounds_toArray, List.set_cons_zero, List.set_cons_succ]
  refine wpX_tail (by kernel_rfl) ?_
  intro wt hT hG
  clear hG hf0 hf1 hf2 hf3 hf4 hf5
  have K1 : Hid (IV wt vl i1) := H1.out.old (by rw [← HW.out]; exact hT.2.2.2.2)
  have K2 : Hid (IV wt vr i2) := H2.out.old (by rw [← HW.out]; exact hT.2.2.2.2)
  have K3 : Hid (IV wt vu i3) := H3.out.old (by rw [← HW.out]; exact hT.2.2.2.2)
  have K4 : Hid (IV wt vd i4) := H4.out.old (by rw [← HW.out]; exact hT.2.2.2.2)
  have c1 := K1.out.cell
  have z1 := K1.out.frozen
  have K2b := K2.out.far (.int .i64 (-((min n (lineB l k).length : Nat) : Int))) (Ne.symm d12)
  have c2 := K2b.cell
  have z2 := K2b.frozen
  have KB := Lib.hid K2b
  have HT := Lib.hid hT
  clear hT K2b
  refine wpAny_one (i := 6) (by kernel_rfl) rfl (fun K hK => ?_)
  go_simp
  refine hK.out _ _ ?_
  clear hK K
  try simp only [Act.put, List.getElem_toArray, List.getElem_cons_succ, List.getElem_cons_zero, List.setIfInBounds_toArray, List.set_cons_zero, List.set_cons_succ]
  refine wpAny_one (i := 7) (by kernel_rfl) rfl (fun K hK => ?_)
  go_simp
  refine hK.out _ _ ?_
  clear hK K
  try simp only [Act.put, List.getElem_toArray, List.getElem_cons_succ, List.getElem_cons_zero, List.setIfInBounds_toArray, List.set_cons_zero, List.set_cons_succ]
  refine wpAny_end (by kernel_rfl) ?_ _
  refine NoPanic.normal ?_
  have SA : Save [vl, vr, vu, vd] wt ((wt.setCell ⟨vl, 0, none⟩ (.int .i64 (-((min n (lineB l k).length : Nat) : Int)))).setCell ⟨vr, 0, none⟩ (.int .i64 (min n (lineA l k).length : Nat))) := (Save.set wt 0 _ (by simp)).trans (Save.set _ 0 _ (by simp))
  have A1 : IV ((wt.setCell ⟨vl, 0, none⟩ (.int .i64 (-((min n (lineB l k).length : Nat) : Int)))).setCell ⟨vr, 0, none⟩ (.int .i64 (min n (lineA l k).length : Nat))) vl (-((min n (lineB l k).length : Nat) : Int)) := (K1.out.set _).far _ d12
  have A2 : IV ((wt.setCell ⟨vl, 0, none⟩ (.int .i64 (-((min n (lineB l k).length : Nat) : Int)))).setCell ⟨vr, 0, none⟩ (.int .i64 (min n (lineA l k).length : Nat))) vr (min n (lineA l k).length : Nat) := KB.out.set _
  have A3 : IV ((wt.setCell ⟨vl, 0, none⟩ (.int .i64 (-((min n (lineB l k).length : Nat) : Int)))).setCell ⟨vr, 0, none⟩ (.int .i64 (min n (lineA l k).length : Nat))) vu i3 := (K3.out.far _ (Ne.symm d13)).far _ (Ne.symm d23)
  have A4 : IV ((wt.setCell ⟨vl, 0, none⟩ (.int .i64 (-((min n (lineB l k).length : Nat) : Int)))).setCell ⟨vr, 0, none⟩ (.int .i64 (min n (lineA l k).length : Nat))) vd i4 := (K4.out.far _ (Ne.symm d14)).far _ (Ne.symm d24)
  clear c1 z1 c2 z2 K1 K2 K3 K4 KB
  generalize ((wt.setCell ⟨vl, 0, none⟩ (.int .i64 (-((min n (lineB l k).length : Nat) : Int)))).setCell ⟨vr, 0, none⟩ (.int .i64 (min n (lineA l k).length : Nat))) = w1 at SA A1 A2 A3 A4 ⊢
  obtain ⟨Z, hZ⟩ : ∃ Z, Z = w1 := ⟨_, rfl⟩
  have T1 : TV Z p l k vx vn vc n c w1 := ⟨SA.cell nx HT.out.1, SA.cell nn HT.out.2.1, SA.cell nc HT.out.2.2.1, ⟨SA.cell np HT.out.2.2.2.1.c0, SA.cell np HT.out.2.2.2.1.c1⟩, by rw [hZ]; exact Old.refl _⟩
  have S1 : Hid (Save [vl, vr, vu, vd] w w1) := (Save.of_old (by rw [← HW.out]; exact HT.out.2.2.2.2)).trans SA
  have G1 := Lib.hid A1
  have G2 := Lib.hid A2
  have G3 := Lib.hid A3
  have G4 := Lib.hid A4
  clear T0 H1 H2 H3 H4 HT A1 A2 A3 A4 SA HW
  clear W
  have T0 := Lib.hid (T1.old (Old.drew w1))
  have HW := Lib.hid hZ
  clear hZ T1
  go_upto_region 1 with fail
  refine wp_region_noPanic ?_
  refine wp_region_X (TV Z p l k vx vn vc n c) (VM8 l k p n c) (WM) (fun j => decide (8 ≤ j)) (blkM) 8 2 (fun _ _ _ _ h _ => h) (by kernel_rfl) T0.out rfl ?_
  refine wpX_take (i := 0) rfl (by kernel_rfl) (fun _ => .pointer (some ⟨p, 0, none⟩)) (fun _ => ⟨rfl, fun b h => by cases h⟩) (by kernel_rfl) (by kernel_rfl) (by kernel_rfl) (by kernel_rfl) rfl ⟨by rfl, ?_⟩ ?_
  · (intro w hT; have h0 := hT.1; have h1 := hT.2.1; have h2 := hT.2.2.1; go_simp; exact LandsX.value ⟨hT, rfl, trivial, Old.refl _, fun b h => by cases h⟩)
  intro v0 hv0 hf0
  obtain rfl : v0 = _ := hv0
  try simp only [Act.put, List.getElem_toArray, List.getElem_cons_succ, List.getElem_cons_zero, List.setIfInBounds_toArray, List.set_cons_zero, List.set_cons_succ]
  refine wpX_take (i := 1) rfl (by kernel_rfl) (fun _ => .int .i64 n) (fun _ => ⟨rfl, fun b h => by cases h⟩) (by kernel_rfl) (by kernel_rfl) (by kernel_rfl) (by kernel_rfl) rfl ⟨by rfl, ?_⟩ ?_
  · (intro w hT; have h0 := hT.1; have h1 := hT.2.1; have h2 := hT.2.2.1; go_simp; exact LandsX.value ⟨hT, rfl, trivial, Old.refl _, fun b h => by cases h⟩)
  intro v1 hv1 hf1
  obtain rfl : v1 = _ := hv1
  try simp only [Act.put, List.getElem_toArray, List.getElem_cons_succ, List.getElem_cons_zero, List.setIfInBounds_toArray, List.set_cons_zero, List.set_cons_succ]
  refine wpX_take (i := 2) rfl (by kernel_rfl) (fun _ => .int .i64 c) (fun _ => ⟨rfl, fun b h => by cases h⟩) (by kernel_rfl) (by kernel_rfl) (by kernel_rfl) (by kernel_rfl) rfl ⟨by rfl, ?_⟩ ?_
  · (intro w hT; have h0 := hT.1; have h1 := hT.2.1; have h2 := hT.2.2.1; go_simp; exact LandsX.value ⟨hT, rfl, trivial, Old.refl _, fun b h => by cases h⟩)
  intro v2 hv2 hf2
  obtain rfl : v2 = _ := hv2
  try simp only [Act.put, List.getElem_toArray, List.getElem_cons_succ, List.getElem_cons_zero, List.setIfInBounds_toArray, List.set_cons_zero, List.set_cons_succ]
  refine wpX_take (i := 3) rfl (by kernel_rfl) (fun _ => .int .i64 ((idxP l (row l k - n) c : Int) - (k : Int))) (fun _ => ⟨rfl, fun b h => by cases h⟩) (by kernel_rfl) (by kernel_rfl) (by kernel_rfl) (by kernel_rfl) rfl ⟨by rfl, ?_⟩ ?_
  · (intro w hT; go_simp; exact LandsX.enter ((up_any p l k _ hT.2.2.2.1 hk OK.out n c (by omega) (by omega)).mono fun e w' h => by obtain ⟨he, o⟩ := h; exact ⟨_, he, hT.old o, rfl, trivial, o, fun b h => by cases h⟩))
  intro v3 hv3 hf3
  obtain rfl : v3 = _ := hv3
  try simp only [Act.put, List.getElem_toArray, List.getElem_cons_succ, List.getElem_cons_zero, List.setIfInBounds_toArray, List.set_cons_zero, List.set_cons_succ]
  refine wpX_take (i := 4) rfl (by kernel_rfl) (fun _ => .pointer (some ⟨p, 0, none⟩)) (fun _ => ⟨rfl, fun b h => by cases h⟩) (by kernel_rfl) (by kernel_rfl) (by kernel_rfl) (by kernel_rfl) rfl ⟨by rfl, ?_⟩ ?_
  · (intro w hT; have h0 := hT.1; have h1 := hT.2.1; have h2 := hT.2.2.1; go_simp; exact LandsX.value ⟨hT, rfl, trivial, Old.refl _, fun b h => by cases h⟩)
  intro v4 hv4 hf4
  obtain rfl : v4 = _ := hv4
  try simp only [Act.put, List.getElem_toArray, List.getElem_cons_succ, List.getElem_cons_zero, List.setIfInBounds_toArray, List.set_cons_zero, List.set_cons_succ]
  refine wpX_take (i := 5) rfl (by kernel_rfl) (fun _ => .int .i64 n) (fun _ => ⟨rfl, fun b h => by cases h⟩) (by kernel_rfl) (by kernel_rfl) (by kernel_rfl) (by kernel_rfl) rfl ⟨by rfl, ?_⟩ ?_
  · (intro w hT; have h0 := hT.1; have h1 := hT.2.1; have h2 := hT.2.2.1; go_simp; exact LandsX.value ⟨hT, rfl, trivial, Old.refl _, fun b h => by cases h⟩)
  intro v5 hv5 hf5
  obtain rfl : v5 = _ := hv5
  try simp only [Act.put, List.getElem_toArray, List.getElem_cons_succ, List.getElem_cons_zero, List.setIfInBounds_toArray, List.set_cons_zero, List.set_cons_succ]
  refine wpX_take (i := 6) rfl (by kernel_rfl) (fun _ => .int .i64 c) (fun _ => ⟨rfl, fun b h => by cases h⟩) (by kernel_rfl) (by kernel_rfl) (by kernel_rfl) (by kernel_rfl) rfl ⟨by rfl, ?_⟩ ?_
  · (intro w hT; have h0 := hT.1; have h1 := hT.2.1; have h2 := hT.2.2.1; go_simp; exact LandsX.value ⟨hT, rfl, trivial, Old.refl _, fun b h => by cases h⟩)
  intro v6 hv6 hf6
  obtain rfl : v6 = _ := hv6
  try simp only [Act.put, List.getElem_toArray, List.getElem_cons_succ, List.getElem_cons_zero, List.setIfInBounds_toArray, List.set_cons_zero, List.set_cons_succ]
  refine wpX_take (i := 7) rfl (by kernel_rfl) (fun _ => .int .i64 ((idxP l (row l k + n) c : Int) - (k : Int))) (fun _ => ⟨rfl, fun b h => by cases h⟩) (by kernel_rfl) (by kernel_rfl) (by kernel_rfl) (by kernel_rfl) rfl ⟨by rfl, ?_⟩ ?_
  · (intro w hT; go_simp; exact LandsX.enter ((down_any p l k _ hT.2.2.2.1 hk OK.out n c (by omega) (by omega) hb).mono fun e w' h => by obtain ⟨he, o⟩ := h; exact ⟨_, he, hT.old o, rfl, trivial, o, fun b h => by cases h⟩))
  intro v7 hv7 hf7
  obtain rfl : v7 = _ := hv7
  try simp only [Act.put, List.getElem_toArray, List.getElem_cons_succ, List.getElem_cons_zero, List.setIfInBounds_toArray, List.set_cons_zero, List.set_cons_succ]
  refine wpX_tail (by kernel_rfl) ?_
  intro wt hT hG
  clear hG hf0 hf1 hf2 hf3 hf4 hf5 hf6 hf7
  have K1 : Hid (IV wt vl _) := G1.out.old (by rw [← HW.out]; exact hT.2.2.2.2)
  have K2 : Hid (IV wt vr _) := G2.out.old (by rw [← HW.out]; exact hT.2.2.2.2)
  have K3 : Hid (IV wt vu i3) := G3.out.old (by rw [← HW.out]; exact hT.2.2.2.2)
  have K4 : Hid (IV wt vd i4) := G4.out.old (by rw [← HW.out]; exact hT.2.2.2.2)
  have c3 := K3.out.cell
  have z3 := K3.out.frozen
  have K4b := K4.out.far (.int .i64 ((idxP l (row l k - n) c : Int) - (k : Int))) (Ne.symm d34)
  have c4 := K4b.cell
  have z4 := K4b.frozen
  have KB := Lib.hid K4b
  have HT := Lib.hid hT
  clear hT K4b
  refine wpAny_one (i := 8) (by kernel_rfl) rfl (fun K hK => ?_)
  go_simp
  refine hK.out _ _ ?_
  clear hK K
  try simp only [Act.put, List.getElem_toArray, List.getElem_cons_succ, List.getElem_cons_zero, List.setIfInBounds_toArray, List.set_cons_zero, List.set_cons_succ]
  refine wpAny_one (i := 9) (by kernel_rfl) rfl (fun K hK => ?_)
  go_simp
  refine hK.out _ _ ?_
  clear hK K
  try simp only [Act.put, List.getElem_toArray, List.getElem_cons_succ, List.getElem_cons_zero, List.setIfInBounds_toArray, List.set_cons_zero, List.set_cons_succ]
  refine wpAny_end (by kernel_rfl) ?_ _
  refine NoPanic.normal ?_
  have SB : Save [vl, vr, vu, vd] wt ((wt.setCell ⟨vu, 0, none⟩ (.int .i64 ((idxP l (row l k - n) c : Int) - (k : Int)))).setCell ⟨vd, 0, none⟩ (.int .i64 ((idxP l (row l k + n) c : Int) - (k : Int)))) := (Save.set wt 0 _ (by simp)).trans (Save.set _ 0 _ (by simp))
  have S2 := (S1.out.trans (Save.of_old (by rw [← HW.out]; exact HT.out.2.2.2.2))).trans SB
  have A3 := (K3.out.set ((idxP l (row l k - n) c : Int) - (k : Int))).far (.int .i64 ((idxP l (row l k + n) c : Int) - (k : Int))) d34
  have A4 := KB.out.set ((idxP l (row l k + n) c : Int) - (k : Int))
  have A1 := (K1.out.far (.int .i64 ((idxP l (row l k - n) c : Int) - (k : Int))) d13).far (.int .i64 ((idxP l (row l k + n) c : Int) - (k : Int))) d14
  have A2 := (K2.out.far (.int .i64 ((idxP l (row l k - n) c : Int) - (k : Int))) d23).far (.int .i64 ((idxP l (row l k + n) c : Int) - (k : Int))) d24
  have S2H := Lib.hid S2
  have A1H := Lib.hid A1
  have A2H := Lib.hid A2
  have A3H := Lib.hid A3
  have A4H := Lib.hid A4
  clear SB S2 A1 A2 A3 A4 c3 z3 c4 z4
  go_wp2_with fail
  refine bodyPost_end (results_none rfl _ _ _) rfl ?_
  exact ⟨rfl, S2H.out, A1H.out, A2H.out, A3H.out, A4H.out⟩
end Go.Proofs.Ytbkdppfjmfepiaa
