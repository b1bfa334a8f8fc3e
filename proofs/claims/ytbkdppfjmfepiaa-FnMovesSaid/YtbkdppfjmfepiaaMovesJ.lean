/- impl.Moves. (Printed by mkmovesj.py.) -/
import Derived.Test.YtbkdppfjmfepiaaMovesI
import Derived.Test.YtbkdppfjmfepiaaAnyT
import Derived.Test.YtbkdppfjmfepiaaCaught
import Derived.Test.YtbkdppfjmfepiaaDocG
import Derived.Deep.Cut
import Derived.Deep.RegionHeld3
namespace Go.Proofs.Ytbkdppfjmfepiaa
open Go.RowKit
set_option linter.unusedVariables false
set_option linter.unusedSimpArgs false
set_option linter.unnecessarySimpa false
set_option maxRecDepth 100000

theorem Save.fresh {E : List Nat} {b i : Nat} {w w1 : World} (h : Save E w w1) (v : Value) (hb : w.heap.size ≤ b) : Save E w (w1.setCell ⟨b, i, none⟩ v) :=
  ⟨h.os, h.tape, h.output, by simpa [World.setCell] using h.size, fun q hq hn => (Below.heap_setCell w1 ⟨b, i, none⟩ v q (by simp; omega)).trans (h.block q hq hn)⟩
theorem IV.lt {w : World} {b : Nat} {v : Int} (h : IV w b v) : b < w.heap.size := (Array.getElem?_eq_some_iff.1 h).1
theorem IV.farC {w : World} {b q : Nat} {v : Int} (h : IV w b v) (x : Value) (hq : b ≠ q) : IV (w.setCell ⟨q, 0, none⟩ x) b v := h.far x hq
set_option maxHeartbeats 1000000 in
theorem mvc_any (vx vn vl vr vc vu vd p : Nat) (l : Bs) (k n c : Nat) (w : World) (hx : w.cell? ⟨vx, 0, none⟩ = some (.pointer (some ⟨p, 0, none⟩))) (hn : w.cell? ⟨vn, 0, none⟩ = some (.int .i64 n)) (hc : w.cell? ⟨vc, 0, none⟩ = some (.int .i64 c))
    (D : DP w p l k) (hk : k ≤ l.length) (ok : okT l) (i1 i2 i3 i4 : Int) (h1 : IV w vl i1) (h2 : IV w vr i2) (h3 : IV w vu i3) (h4 : IV w vd i4) (d12 : vl ≠ vr) (d13 : vl ≠ vu) (d14 : vl ≠ vd) (d23 : vr ≠ vu) (d24 : vr ≠ vd) (d34 : vu ≠ vd)
    (nx : vx ∉ [vl, vr, vu, vd]) (nn : vn ∉ [vl, vr, vu, vd]) (nc : vc ∉ [vl, vr, vu, vd]) (np : p ∉ [vl, vr, vu, vd]) (bn : n ≤ 2000) (bc : c ≤ 2000) (hb : row l k + n < (splitL l).length) :
    Calls Try.prog 39 #[.func (.func 58) #[] #[.pointer (some ⟨vx, 0, none⟩), .pointer (some ⟨vn, 0, none⟩), .pointer (some ⟨vl, 0, none⟩), .pointer (some ⟨vr, 0, none⟩), .pointer (some ⟨vc, 0, none⟩), .pointer (some ⟨vu, 0, none⟩), .pointer (some ⟨vd, 0, none⟩)]] w fun e w' =>
      e = .returned (.bool true) ∧ Save [vl, vr, vu, vd] w w' ∧ IV w' vl (-((min n (lineB l k).length : Nat) : Int)) ∧ IV w' vr (min n (lineA l k).length : Nat) ∧ IV w' vu ((idxP l (row l k - n) c : Int) - (k : Int)) ∧ IV w' vd ((idxP l (row l k + n) c : Int) - (k : Int)) := by
  have oA : Old w (w.alloc (.cells #[.bool false] 4)) := Old.alloc _ _
  have z1 := heap_alloc_new w (.cells #[.bool false] 4)
  have q1 := h1.lt
  have q2 := h2.lt
  have q3 := h3.lt
  have q4 := h4.lt
  have hm := mv1_any vx vn vl vr vc vu vd p l k n c (w.alloc (.cells #[.bool false] 4)) ((oA.cell (World.block_lt_of_cell? w _ hx)).trans hx) ((oA.cell (World.block_lt_of_cell? w _ hn)).trans hn) ((oA.cell (World.block_lt_of_cell? w _ hc)).trans hc) (D.old oA) hk ok i1 i2 i3 i4 (h1.old oA) (h2.old oA) (h3.old oA) (h4.old oA) d12 d13 d14 d23 d24 d34 nx nn nc np bn bc hb
  refine (caught_ok 58 _ w (fun w' => Save [vl, vr, vu, vd] w w' ∧ IV w' vl (-((min n (lineB l k).length : Nat) : Int)) ∧ IV w' vr (min n (lineA l k).length : Nat) ∧ IV w' vu ((idxP l (row l k - n) c : Int) - (k : Int)) ∧ IV w' vd ((idxP l (row l k + n) c : Int) - (k : Int))) (fun _ => rfl) (hm.mono ?_)).mono ?_
  · rintro e w2 ⟨rfl, s2, r1, r2, r3, r4⟩
    refine ⟨rfl, (s2.block w.heap.size (by simp) (by simp; omega)).trans z1, (Save.of_old oA).trans s2, r1, r2, r3, r4⟩
  · rintro e w3 ⟨rfl, w2, ⟨s2, r1, r2, r3, r4⟩, rfl⟩
    exact ⟨rfl, s2.fresh _ (Nat.le_refl _), r1.far _ (by omega), r2.far _ (by omega), r3.far _ (by omega), r4.far _ (by omega)⟩

/-- The four variables hold their places. -/
def TR (W : World) (vl vr vu vd : Nat) (L R U D : Int) (w : World) : Prop := IV w vl L ∧ IV w vr R ∧ IV w vu U ∧ IV w vd D ∧ Save [vl, vr, vu, vd] W w
theorem TR.put1 {W w : World} {vl vr vu vd : Nat} {L R U D : Int} (h : TR W vl vr vu vd L R U D w) (d12 : vl ≠ vr) (d13 : vl ≠ vu) (d14 : vl ≠ vd) (d23 : vr ≠ vu) (d24 : vr ≠ vd) (d34 : vu ≠ vd) : TR W vl vr vu vd L R U D (w.setCell ⟨vl, 0, none⟩ (.int .i64 L)) :=
  ⟨h.1.set L, h.2.1.far _ (Ne.symm d12), h.2.2.1.far _ (Ne.symm d13), h.2.2.2.1.far _ (Ne.symm d14), h.2.2.2.2.trans (Save.set w 0 _ (by simp))⟩
theorem TR.put2 {W w : World} {vl vr vu vd : Nat} {L R U D : Int} (h : TR W vl vr vu vd L R U D w) (d12 : vl ≠ vr) (d13 : vl ≠ vu) (d14 : vl ≠ vd) (d23 : vr ≠ vu) (d24 : vr ≠ vd) (d34 : vu ≠ vd) : TR W vl vr vu vd L R U D (w.setCell ⟨vr, 0, none⟩ (.int .i64 R)) :=
  ⟨h.1.far _ d12, h.2.1.set R, h.2.2.1.far _ (Ne.symm d23), h.2.2.2.1.far _ (Ne.symm d24), h.2.2.2.2.trans (Save.set w 0 _ (by simp))⟩
theorem TR.put3 {W w : World} {vl vr vu vd : Nat} {L R U D : Int} (h : TR W vl vr vu vd L R U D w) (d12 : vl ≠ vr) (d13 : vl ≠ vu) (d14 : vl ≠ vd) (d23 : vr ≠ vu) (d24 : vr ≠ vd) (d34 : vu ≠ vd) : TR W vl vr vu vd L R U D (w.setCell ⟨vu, 0, none⟩ (.int .i64 U)) :=
  ⟨h.1.far _ d13, h.2.1.far _ d23, h.2.2.1.set U, h.2.2.2.1.far _ (Ne.symm d34), h.2.2.2.2.trans (Save.set w 0 _ (by simp))⟩
theorem TR.put4 {W w : World} {vl vr vu vd : Nat} {L R U D : Int} (h : TR W vl vr vu vd L R U D w) (d12 : vl ≠ vr) (d13 : vl ≠ vu) (d14 : vl ≠ vd) (d23 : vr ≠ vu) (d24 : vr ≠ vd) (d34 : vu ≠ vd) : TR W vl vr vu vd L R U D (w.setCell ⟨vd, 0, none⟩ (.int .i64 D)) :=
  ⟨h.1.far _ d14, h.2.1.far _ d24, h.2.2.1.far _ d34, h.2.2.2.1.set D, h.2.2.2.2.trans (Save.set w 0 _ (by simp))⟩
theorem TR.old {W w w' : World} {vl vr vu vd : Nat} {L R U D : Int} (h : TR W vl vr vu vd L R U D w) (o : Old w w') : TR W vl vr vu vd L R U D w' := ⟨h.1.old o, h.2.1.old o, h.2.2.1.old o, h.2.2.2.1.old o, h.2.2.2.2.trans (Save.of_old o)⟩

theorem boxes7 (w : World) (l : Bs) (k n c : Nat) : ∃ W7 b1 b2 b3 b4 b5 b6, W7 = ((((((w.alloc (Obj.cells #[Value.string (tx l), Value.int IntKind.i64 k] 47)).alloc (Obj.cells #[Value.int IntKind.i64 n] 3)).alloc (Obj.cells #[Value.int IntKind.i64 c] 3)).alloc (Obj.cells #[Value.int IntKind.i64 0] 3)).alloc (Obj.cells #[Value.int IntKind.i64 0] 3)).alloc (Obj.cells #[Value.int IntKind.i64 0] 3)).alloc (Obj.cells #[Value.int IntKind.i64 0] 3) ∧
    b1 = w.heap.size + 1 ∧ b2 = b1 + 1 ∧ b3 = b2 + 1 ∧ b4 = b3 + 1 ∧ b5 = b4 + 1 ∧ b6 = b5 + 1 ∧ Old w W7 ∧ W7.heap.size = b6 + 1 ∧ W7.cell? ⟨w.heap.size, 0, none⟩ = some (.string (tx l)) ∧ W7.cell? ⟨w.heap.size, 1, none⟩ = some (.int .i64 k) ∧
    IV W7 b1 n ∧ IV W7 b2 c ∧ IV W7 b3 0 ∧ IV W7 b4 0 ∧ IV W7 b5 0 ∧ IV W7 b6 0 := by
  obtain ⟨x0, hx0⟩ : ∃ x, x = w.alloc (Obj.cells #[Value.string (tx l), Value.int IntKind.i64 k] 47) := ⟨_, rfl⟩
  obtain ⟨x1, hx1⟩ : ∃ x, x = x0.alloc (Obj.cells #[Value.int IntKind.i64 n] 3) := ⟨_, rfl⟩
  obtain ⟨x2, hx2⟩ : ∃ x, x = x1.alloc (Obj.cells #[Value.int IntKind.i64 c] 3) := ⟨_, rfl⟩
  obtain ⟨x3, hx3⟩ : ∃ x, x = x2.alloc (Obj.cells #[Value.int IntKind.i64 0] 3) := ⟨_, rfl⟩
  obtain ⟨x4, hx4⟩ : ∃ x, x = x3.alloc (Obj.cells #[Value.int IntKind.i64 0] 3) := ⟨_, rfl⟩
  obtain ⟨x5, hx5⟩ : ∃ x, x = x4.alloc (Obj.cells #[Value.int IntKind.i64 0] 3) := ⟨_, rfl⟩
  obtain ⟨x6, hx6⟩ : ∃ x, x = x5.alloc (Obj.cells #[Value.int IntKind.i64 0] 3) := ⟨_, rfl⟩
  have o0 : Old w x0 := by rw [hx0]; exact Old.alloc _ _
  have o1 : Old x0 x1 := by rw [hx1]; exact Old.alloc _ _
  have o2 : Old x1 x2 := by rw [hx2]; exact Old.alloc _ _
  have o3 : Old x2 x3 := by rw [hx3]; exact Old.alloc _ _
  have o4 : Old x3 x4 := by rw [hx4]; exact Old.alloc _ _
  have o5 : Old x4 x5 := by rw [hx5]; exact Old.alloc _ _
  have o6 : Old x5 x6 := by rw [hx6]; exact Old.alloc _ _
  have s0 : x0.heap.size = w.heap.size + 1 := by rw [hx0]; simp
  have s1 : x1.heap.size = x0.heap.size + 1 := by rw [hx1]; simp
  have s2 : x2.heap.size = x1.heap.size + 1 := by rw [hx2]; simp
  have s3 : x3.heap.size = x2.heap.size + 1 := by rw [hx3]; simp
  have s4 : x4.heap.size = x3.heap.size + 1 := by rw [hx4]; simp
  have s5 : x5.heap.size = x4.heap.size + 1 := by rw [hx5]; simp
  have s6 : x6.heap.size = x5.heap.size + 1 := by rw [hx6]; simp
  have h0 : x0.heap[w.heap.size]? = some (.cells #[Value.string (tx l), Value.int IntKind.i64 k] 47) := by rw [hx0]; exact heap_alloc_new _ _
  have p6 := o6
  have p5 := o5.trans p6
  have p4 := o4.trans p5
  have p3 := o3.trans p4
  have p2 := o2.trans p3
  have p1 := o1.trans p2
  have h0' := (p1.heap (by omega)).trans h0
  have i1 : IV x1 x0.heap.size n := by rw [hx1]; exact heap_alloc_new _ _
  have i2 : IV x2 x1.heap.size c := by rw [hx2]; exact heap_alloc_new _ _
  have i3 : IV x3 x2.heap.size 0 := by rw [hx3]; exact heap_alloc_new _ _
  have i4 : IV x4 x3.heap.size 0 := by rw [hx4]; exact heap_alloc_new _ _
  have i5 : IV x5 x4.heap.size 0 := by rw [hx5]; exact heap_alloc_new _ _
  have i6 : IV x6 x5.heap.size 0 := by rw [hx6]; exact heap_alloc_new _ _
  refine ⟨x6, x0.heap.size, x1.heap.size, x2.heap.size, x3.heap.size, x4.heap.size, x5.heap.size, ?_, s0, s1, s2, s3, s4, s5, o0.trans p1, s6, (cell_of_row _ _ 0 _ _ _ h0').trans rfl, (cell_of_row _ _ 1 _ _ _ h0').trans rfl, i1.old p2, i2.old p3, i3.old p4, i4.old p5, i5.old p6, i6⟩
  rw [hx6, hx5, hx4, hx3, hx2, hx1, hx0]
set_option maxHeartbeats 2000000 in
theorem moves_any (l : Bs) (k n c : Nat) (w : World) (hk : k ≤ l.length) (ok : okT l) (bn : n ≤ 2000) (bc : c ≤ 2000) (hb : row l k + n < (splitL l).length) :
    Calls Try.prog 25 #[.agg #[.string (tx l), .int .i64 k], .int .i64 n, .int .i64 c] w fun e w' => e = .returned (.tuple #[.int .i64 (-((min n (lineB l k).length : Nat) : Int)), .int .i64 (min n (lineA l k).length : Nat), .int .i64 ((idxP l (row l k - n) c : Int) - (k : Int)), .int .i64 ((idxP l (row l k + n) c : Int) - (k : Int)), .bool true]) ∧ Old w w' := by
  have OK := Lib.hid ok
  have HB := Lib.hid hb
  have hmf : ∀ (fn : Fn) (first cap : Array Value) (w : World), (Instr.makeFunc fn first cap).run Try.prog w = .ok (.func fn first cap) w := fun _ _ _ _ => rfl
  clear ok hb
  go_enter Try.func25, Try.ntmps25
  go_upto_region 1 with fail
  obtain ⟨W7, b1, b2, b3, b4, b5, b6, hW, e1, e2, e3, e4, e5, e6, o7, s7, c0, c1, n1, n2, n3, n4, n5, n6⟩ := boxes7 w l k n c
  rw [← hW, ← e1, ← e2, ← e3, ← e4, ← e5, ← e6]
  have E1 := Lib.hid e1
  have E2 := Lib.hid e2
  have E3 := Lib.hid e3
  have E4 := Lib.hid e4
  have E5 := Lib.hid e5
  have E6 := Lib.hid e6
  have O7 := Lib.hid o7
  have S7 := Lib.hid s7
  have N1 := Lib.hid n1
  have N2 := Lib.hid n2
  have N3 := Lib.hid n3
  have N4 := Lib.hid n4
  have N5 := Lib.hid n5
  have N6 := Lib.hid n6
  clear hW e1 e2 e3 e4 e5 e6 o7 s7 n1 n2 n3 n4 n5 n6
  go_upto_region 5 with (go_at_call 57; refine (docD_any l k _ hk OK.out).mono ?_; rintro e w2 ⟨p, rfl, o2, hp, d2⟩; have O2 := Lib.hid o2; have D2 := Lib.hid d2; have HP := Lib.hid hp; clear o2 d2 hp)
  have hv := heap_alloc_new w2 (.cells #[.pointer (some ⟨p, 0, none⟩)] 90)
  have oA : Old w2 (w2.alloc (.cells #[.pointer (some ⟨p, 0, none⟩)] 90)) := Old.alloc _ _
  have oB := O2.out.trans oA
  have f1 := E1.out
  have f2 := E2.out
  have f3 := E3.out
  have f4 := E4.out
  have f5 := E5.out
  have f6 := E6.out
  have f7 := S7.out
  have f8 := HP.out
  have f9 := O2.out.size
  have hcx : (w2.alloc (.cells #[.pointer (some ⟨p, 0, none⟩)] 90)).cell? ⟨w2.heap.size, 0, none⟩ = some (.pointer (some ⟨p, 0, none⟩)) := cell_of_row _ _ 0 _ _ _ hv
  refine (mvc_any w2.heap.size b1 b3 b4 b2 b5 b6 p l k n c _ hcx (N1.out.old oB).cell (N2.out.old oB).cell (D2.out.old oA) hk OK.out 0 0 0 0 (N3.out.old oB) (N4.out.old oB) (N5.out.old oB) (N6.out.old oB) (by omega) (by omega) (by omega) (by omega) (by omega) (by omega) (by simp; omega) (by simp; omega) (by simp; omega) (by simp; omega) bn bc HB.out).mono ?_
  rintro e w3 ⟨rfl, s3, r1, r2, r3, r4⟩
  have T3 := Lib.hid (show TR _ b3 b4 b5 b6 _ _ _ _ w3 from ⟨r1, r2, r3, r4, s3⟩)
  have OB := Lib.hid (O7.out.trans oB)
  clear hv oA oB f1 f2 f3 f4 f5 f6 f7 f8 f9 hcx s3 r1 r2 r3 r4
  go_upto_region 5 with fail
  generalize w2.alloc (.cells #[.pointer (some ⟨p, 0, none⟩)] 90) = WA at T3 OB
  have T0 := T3.out.old (Old.drew w3)
  have f1 := E1.out
  have f2 := E2.out
  have f3 := E3.out
  have f4 := E4.out
  have f5 := E5.out
  have f6 := E6.out
  have d12 : b3 ≠ b4 := by omega
  have d13 : b3 ≠ b5 := by omega
  have d14 : b3 ≠ b6 := by omega
  have d23 : b4 ≠ b5 := by omega
  have d24 : b4 ≠ b6 := by omega
  have d34 : b5 ≠ b6 := by omega
  have NB : Hid (∀ q ∈ [b3, b4, b5, b6], w.heap.size ≤ q) := fun q hq => by simp at hq; omega
  clear f1 f2 f3 f4 f5 f6 c0 c1
  refine wp_region_noPanic ?_
  refine wp_region_T (fun _ => TR WA b3 b4 b5 b6 (-((min n (lineB l k).length : Nat) : Int)) (min n (lineA l k).length : Nat) ((idxP l (row l k - n) c : Int) - (k : Int)) ((idxP l (row l k + n) c : Int) - (k : Int))) 0 (by kernel_rfl) T0 ?_
  refine wpT_take (i := 0) (v := ?_) rfl (by kernel_rfl) (by kernel_rfl) (by kernel_rfl) (Or.inl ⟨by rfl, ?_⟩) ?_
  rotate_left
  · (intro b hb w hT; have h1 := hT.1.cell; have h2 := hT.2.1.cell; have h3 := hT.2.2.1.cell; have h4 := hT.2.2.2.1.cell; go_simp; exact Lands.value hT)
  try simp only [Act.put, List.getElem_toArray, List.getElem_cons_succ, List.getElem_cons_zero, List.setIfInBounds_toArray, List.set_cons_zero, List.set_cons_succ]
  refine wpT_take (i := 1) (v := ?_) rfl (by kernel_rfl) (by kernel_rfl) (by kernel_rfl) (Or.inl ⟨by rfl, ?_⟩) ?_
  rotate_left
  · (intro b hb w hT; have h1 := hT.1.cell; have h2 := hT.2.1.cell; have h3 := hT.2.2.1.cell; have h4 := hT.2.2.2.1.cell; go_simp; exact Lands.value hT)
  try simp only [Act.put, List.getElem_toArray, List.getElem_cons_succ, List.getElem_cons_zero, List.setIfInBounds_toArray, List.set_cons_zero, List.set_cons_succ]
  refine wpT_take (i := 2) (v := ?_) rfl (by kernel_rfl) (by kernel_rfl) (by kernel_rfl) (Or.inl ⟨by rfl, ?_⟩) ?_
  rotate_left
  · (intro b hb w hT; have h1 := hT.1.cell; have h2 := hT.2.1.cell; have h3 := hT.2.2.1.cell; have h4 := hT.2.2.2.1.cell; go_simp; exact Lands.value hT)
  try simp only [Act.put, List.getElem_toArray, List.getElem_cons_succ, List.getElem_cons_zero, List.setIfInBounds_toArray, List.set_cons_zero, List.set_cons_succ]
  refine wpT_take (i := 3) (v := ?_) rfl (by kernel_rfl) (by kernel_rfl) (by kernel_rfl) (Or.inl ⟨by rfl, ?_⟩) ?_
  rotate_left
  · (intro b hb w hT; have h1 := hT.1.cell; have h2 := hT.2.1.cell; have h3 := hT.2.2.1.cell; have h4 := hT.2.2.2.1.cell; go_simp; exact Lands.value hT)
  try simp only [Act.put, List.getElem_toArray, List.getElem_cons_succ, List.getElem_cons_zero, List.setIfInBounds_toArray, List.set_cons_zero, List.set_cons_succ]
  refine wpT_take (i := 4) (v := ?_) rfl (by kernel_rfl) (by kernel_rfl) (by kernel_rfl) (Or.inl ⟨by rfl, ?_⟩) ?_
  rotate_left
  · (intro b hb w hT; go_simp; exact Lands.value hT)
  try simp only [Act.put, List.getElem_toArray, List.getElem_cons_succ, List.getElem_cons_zero, List.setIfInBounds_toArray, List.set_cons_zero, List.set_cons_succ]
  refine wpT_take (i := 5) (v := ?_) rfl (by kernel_rfl) (by kernel_rfl) (by kernel_rfl) (Or.inl ⟨by rfl, ?_⟩) ?_
  rotate_left
  · (intro b hb w hT; have g1 := hT.1.cell; have g2 := hT.1.frozen; go_simp; first | exact Lands.skip (hT.put1 d12 d13 d14 d23 d24 d34) | exact Lands.value (hT.put1 d12 d13 d14 d23 d24 d34))
  try simp only [Act.put, List.getElem_toArray, List.getElem_cons_succ, List.getElem_cons_zero, List.setIfInBounds_toArray, List.set_cons_zero, List.set_cons_succ]
  refine wpT_take (i := 6) (v := ?_) rfl (by kernel_rfl) (by kernel_rfl) (by kernel_rfl) (Or.inl ⟨by rfl, ?_⟩) ?_
  rotate_left
  · (intro b hb w hT; have g1 := hT.2.1.cell; have g2 := hT.2.1.frozen; go_simp; first | exact Lands.skip (hT.put2 d12 d13 d14 d23 d24 d34) | exact Lands.value (hT.put2 d12 d13 d14 d23 d24 d34))
  try simp only [Act.put, List.getElem_toArray, List.getElem_cons_succ, List.getElem_cons_zero, List.setIfInBounds_toArray, List.set_cons_zero, List.set_cons_succ]
  refine wpT_take (i := 7) (v := ?_) rfl (by kernel_rfl) (by kernel_rfl) (by kernel_rfl) (Or.inl ⟨by rfl, ?_⟩) ?_
  rotate_left
  · (intro b hb w hT; have g1 := hT.2.2.1.cell; have g2 := hT.2.2.1.frozen; go_simp; first | exact Lands.skip (hT.put3 d12 d13 d14 d23 d24 d34) | exact Lands.value (hT.put3 d12 d13 d14 d23 d24 d34))
  try simp only [Act.put, List.getElem_toArray, List.getElem_cons_succ, List.getElem_cons_zero, List.setIfInBounds_toArray, List.set_cons_zero, List.set_cons_succ]
  refine wpT_take (i := 8) (v := ?_) rfl (by kernel_rfl) (by kernel_rfl) (by kernel_rfl) (Or.inl ⟨by rfl, ?_⟩) ?_
  rotate_left
  · (intro b hb w hT; have g1 := hT.2.2.2.1.cell; have g2 := hT.2.2.2.1.frozen; go_simp; first | exact Lands.skip (hT.put4 d12 d13 d14 d23 d24 d34) | exact Lands.value (hT.put4 d12 d13 d14 d23 d24 d34))
  try simp only [Act.put, List.getElem_toArray, List.getElem_cons_succ, List.getElem_cons_zero, List.setIfInBounds_toArray, List.set_cons_zero, List.set_cons_succ]
  refine wpT_take (i := 9) (v := ?_) rfl (by kernel_rfl) (by kernel_rfl) (by kernel_rfl) (Or.inl ⟨by rfl, ?_⟩) ?_
  rotate_left
  · (intro b hb w hT; go_simp; exact Lands.value hT)
  try simp only [Act.put, List.getElem_toArray, List.getElem_cons_succ, List.getElem_cons_zero, List.setIfInBounds_toArray, List.set_cons_zero, List.set_cons_succ]
  refine wpT_done (by kernel_rfl) ?_ _
  intro wt hT
  refine NoPanic.normal ?_
  have h1 := hT.1.cell
  have h2 := hT.2.1.cell
  have h3 := hT.2.2.1.cell
  have h4 := hT.2.2.2.1.cell
  have OZ := Lib.hid (Save.old OB.out hT.2.2.2.2 NB.out)
  clear hT T0
  go_wp2_with fail
  refine bodyPost_ret (v := .tuple #[.int .i64 (-((min n (lineB l k).length : Nat) : Int)), .int .i64 (min n (lineA l k).length : Nat), .int .i64 ((idxP l (row l k - n) c : Int) - (k : Int)), .int .i64 ((idxP l (row l k + n) c : Int) - (k : Int)), .bool true]) ?_ rfl ⟨rfl, OZ.out⟩
  simp [results, Try.results25, go_sem, asAddr, h1, h2, h3, h4]
end Go.Proofs.Ytbkdppfjmfepiaa
