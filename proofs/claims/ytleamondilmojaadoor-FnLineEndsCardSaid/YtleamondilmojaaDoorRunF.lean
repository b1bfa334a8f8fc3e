/- impl.run, impl.EditedFrom. (Printed by mkrunf.py.) -/
import Derived.Test.YtleamondilmojaaDoorRunE
import Derived.Test.YtleamondilmojaaDoorCaught
import Derived.Test.YtleamondilmojaaDoorDocG
import Derived.Test.YtleamondilmojaaDoorCM0
import Derived.Test.YtleamondilmojaaDoorAnyT
namespace Go.Proofs.YtleamondilmojaaDoor
open Go.RowKit
set_option linter.unusedVariables false
set_option linter.unusedSimpArgs false
set_option linter.unnecessarySimpa false
set_option maxRecDepth 100000

theorem Script.two {p q : Nat} {w w' : World} {v : Value} {l : List Ed} (h : Script w v l) (t : Two p q w w') (n : ∀ b o m c, v = .slice (some ⟨b, o, none⟩) m c → b ≠ p ∧ b ≠ q) : Script w' v l := by
  obtain ⟨ad, c, h1, h2, h3, h4⟩ := h
  refine ⟨ad, c, h1, h2, h3, fun j hj => ?_⟩
  obtain ⟨b, of, e, g0, g1, g2, g3⟩ := h4 j hj
  have hl := World.block_lt_of_cell? w _ g0
  obtain ⟨n1, n2⟩ := n b of _ _ (by rw [h1, e])
  exact ⟨b, of, e, (t.cell hl n1 n2).trans g0, (t.cell hl n1 n2).trans g1, (t.cell hl n1 n2).trans g2, (t.cell hl n1 n2).trans g3⟩
theorem own_slice {w : World} {base sz n : Nat} {e : TypeId} {v : Value} {xs : List Value} (h : w.ownsRow base e sz v n xs) : ∃ a m c, v = .slice a m c := by
  rcases h.2 with ⟨h, _⟩ | ⟨g, cap, cur, h, _⟩
  · exact ⟨_, _, _, h⟩
  · exact ⟨_, _, _, h⟩
theorem boxes5 (w : World) (bp : Nat) (sv : Value) : ∃ W5 b1 b2 b3 b4, W5 = ((((w.alloc (Obj.cells #[Value.pointer (some ⟨bp, 0, none⟩)] 61)).alloc (Obj.cells #[sv] 41)).alloc (Obj.cells #[Value.string ⟨#[]⟩, Value.int IntKind.i64 0] 34)).alloc (Obj.cells #[Value.slice none 0 0] 36)).alloc (Obj.cells #[Value.bool true] 4) ∧
    b1 = w.heap.size + 1 ∧ b2 = b1 + 1 ∧ b3 = b2 + 1 ∧ b4 = b3 + 1 ∧ Old w W5 ∧ W5.heap.size = b4 + 1 ∧ VH W5 w.heap.size (.pointer (some ⟨bp, 0, none⟩)) 61 ∧ VH W5 b1 sv 41 ∧ W5.heap[b2]? = some (.cells #[.string ⟨#[]⟩, .int .i64 0] 34) ∧ VH W5 b3 (.slice none 0 0) 36 ∧ VH W5 b4 (.bool true) 4 := by
  obtain ⟨x0, hx0⟩ : ∃ x, x = w.alloc (Obj.cells #[Value.pointer (some ⟨bp, 0, none⟩)] 61) := ⟨_, rfl⟩
  obtain ⟨x1, hx1⟩ : ∃ x, x = x0.alloc (Obj.cells #[sv] 41) := ⟨_, rfl⟩
  obtain ⟨x2, hx2⟩ : ∃ x, x = x1.alloc (Obj.cells #[Value.string ⟨#[]⟩, Value.int IntKind.i64 0] 34) := ⟨_, rfl⟩
  obtain ⟨x3, hx3⟩ : ∃ x, x = x2.alloc (Obj.cells #[Value.slice none 0 0] 36) := ⟨_, rfl⟩
  obtain ⟨x4, hx4⟩ : ∃ x, x = x3.alloc (Obj.cells #[Value.bool true] 4) := ⟨_, rfl⟩
  have o0 : Old w x0 := by rw [hx0]; exact Old.alloc _ _
  have o1 : Old x0 x1 := by rw [hx1]; exact Old.alloc _ _
  have o2 : Old x1 x2 := by rw [hx2]; exact Old.alloc _ _
  have o3 : Old x2 x3 := by rw [hx3]; exact Old.alloc _ _
  have o4 : Old x3 x4 := by rw [hx4]; exact Old.alloc _ _
  have s0 : x0.heap.size = w.heap.size + 1 := by rw [hx0]; simp
  have s1 : x1.heap.size = x0.heap.size + 1 := by rw [hx1]; simp
  have s2 : x2.heap.size = x1.heap.size + 1 := by rw [hx2]; simp
  have s3 : x3.heap.size = x2.heap.size + 1 := by rw [hx3]; simp
  have s4 : x4.heap.size = x3.heap.size + 1 := by rw [hx4]; simp
  have h0 : VH x0 w.heap.size (.pointer (some ⟨bp, 0, none⟩)) 61 := by rw [hx0]; exact heap_alloc_new _ _
  have h1 : VH x1 x0.heap.size sv 41 := by rw [hx1]; exact heap_alloc_new _ _
  have h2 : x2.heap[x1.heap.size]? = some (.cells #[.string ⟨#[]⟩, .int .i64 0] 34) := by rw [hx2]; exact heap_alloc_new _ _
  have h3 : VH x3 x2.heap.size (.slice none 0 0) 36 := by rw [hx3]; exact heap_alloc_new _ _
  have h4 : VH x4 x3.heap.size (.bool true) 4 := by rw [hx4]; exact heap_alloc_new _ _
  have p3 := o3.trans o4
  have p2 := o2.trans p3
  have p1 := o1.trans p2
  refine ⟨x4, x0.heap.size, x1.heap.size, x2.heap.size, x3.heap.size, ?_, s0, s1, s2, s3, o0.trans p1, s4, h0.old p1, h1.old p2, (p3.heap (by omega)).trans h2, h3.old o4, h4⟩
  rw [hx4, hx3, hx2, hx1, hx0]
/-- What a script leaves, within caught. -/
structure RC (W : World) (vb vf vt bp lb : Nat) (s1 : St) (ts : List Bs) (tv : Value) (w : World) : Prop where
  b : BE w bp lb s1.l s1.k s1.pc
  f : VH w vf (.bool true) 4
  t : VH w vt tv 36
  o : w.ownsRow W.heap.size 9 1 tv ts.length (ts.map fun x => .string (tx x))
  s : Save [bp, lb, vf, vt] W w
  m : VH w vb (.pointer (some ⟨bp, 0, none⟩)) 61
theorem Script.old2 {w w' : World} {v : Value} {l : List Ed} (h : Script w v l) (o : Old w w') : Script w' v l := h.old o
set_option maxHeartbeats 1000000 in
theorem runc_any (vs vb vf vt bp lb : Nat) (sv : Value) (es : List Ed) (ts : List Bs) (s0 s1 : St) (w : World) (hs : VH w vs sv 41) (hsc : Script w sv es) (hm : VH w vb (.pointer (some ⟨bp, 0, none⟩)) 61) (hf : VH w vf (.bool true) 4) (ht : VH w vt (.slice none 0 0) 36)
    (hb : BE w bp lb s0.l s0.k s0.pc) (hc : Chain es s0 s1 ts) (hn : es.length ≤ 100000) (d1 : vb ≠ bp) (d2 : vb ≠ lb) (d3 : vb ≠ vf) (d4 : vb ≠ vt) (d5 : vf ≠ bp) (d6 : vf ≠ lb) (d7 : vf ≠ vt) (d8 : vt ≠ bp) (d9 : vt ≠ lb) (ns : ∀ b o n c, sv = .slice (some ⟨b, o, none⟩) n c → b ∉ [bp, lb, vf, vt]) :
    Calls Tryd.prog 59 #[.func (.func 60) #[] #[.pointer (some ⟨vs, 0, none⟩), .pointer (some ⟨vb, 0, none⟩), .pointer (some ⟨vf, 0, none⟩), .pointer (some ⟨vt, 0, none⟩)]] w fun e w' => e = .returned (.bool true) ∧ ∃ tv, RC w vb vf vt bp lb s1 ts tv w' := by
  have oA : Old w (w.alloc (.cells #[.bool false] 4)) := Old.alloc _ _
  have z1 : VH (w.alloc (.cells #[.bool false] 4)) w.heap.size (.bool false) 4 := heap_alloc_new w _
  have hlb : bp < w.heap.size ∧ lb < w.heap.size := by obtain ⟨_, g⟩ := hb; exact g.lt
  have q1 := hf.lt
  have q2 := ht.lt
  have q3 := hm.lt
  have hl := hc.len
  have hx := run1_any vs vb vf vt bp lb sv es ts s0 s1 (w.alloc (.cells #[.bool false] 4)) (hs.old oA).cell (hsc.old oA) (hm.old oA) (hf.old oA) (ht.old oA) (hb.old oA) hc hn d1 d2 d3 d4 d5 d6 d7 d8 d9 ns
  refine (caught_ok 60 _ w (fun w' => ∃ tv, RI (w.alloc (.cells #[.bool false] 4)) vb vf vt bp lb es ts s1 es.length s1 tv w') (fun _ => rfl) (hx.mono ?_)).mono ?_
  · rintro e w2 ⟨rfl, tv, r⟩
    exact ⟨rfl, (r.s.block w.heap.size (by simp) (by simp; omega)).trans z1, tv, r⟩
  · rintro e w3 ⟨rfl, w2, ⟨tv, r⟩, rfl⟩
    have hz : VH w2 w.heap.size (.bool false) 4 := (r.s.block w.heap.size (by simp) (by simp; omega)).trans z1
    have ho := r.o
    rw [← hl, List.take_length] at ho
    refine ⟨rfl, tv, r.b.set hz (by decide) (by omega) (by omega) _, r.f.far _ _ _ (by omega), r.t.far _ _ _ (by omega), own_down (own_keep ho fun g hg hgl => Below.heap_setCell w2 ⟨w.heap.size, 0, none⟩ _ g (by have h1 := (own_inside ho g hg).1; simp at h1; simp; omega)) (by simp), ?_, r.m.far _ _ _ (by omega)⟩
    exact ((Save.of_old oA).trans r.s).fresh _ (Nat.le_refl _)
/-- Within run, at its end. -/
def TR9 (W0 : World) (vb vd vt bp lb : Nat) (s1 : St) (tv dv : Value) (b : Bool) (w : World) : Prop :=
  B9 w bp lb s1.l s1.k s1.pc dv ∧ VH w vb (.pointer (some ⟨bp, 0, none⟩)) 61 ∧ VH w vt tv 36 ∧ w.heap[vd]? = some (.cells (if b then #[.string (tx s1.l), .int .i64 s1.k] else #[.string ⟨#[]⟩, .int .i64 0]) 34) ∧ Save [vd, vt] W0 w
theorem TR9.old {W0 w w' : World} {vb vd vt bp lb : Nat} {s1 : St} {tv dv : Value} {b : Bool} (h : TR9 W0 vb vd vt bp lb s1 tv dv b w) (o : Old w w') : TR9 W0 vb vd vt bp lb s1 tv dv b w' :=
  ⟨h.1.old o, h.2.1.old o, h.2.2.1.old o, (o.heap (Array.getElem?_eq_some_iff.1 h.2.2.2.1).1).trans h.2.2.2.1, h.2.2.2.2.trans (Save.of_old o)⟩
theorem Save.row {E : List Nat} {b : Nat} (w : World) (C : Array Value) (hb : b ∈ E) : Save E w (w.setRow b C) :=
  ⟨rfl, rfl, rfl, by simp, fun q _ hn => setRow_other w b q C (by rintro rfl; exact hn hb)⟩
theorem TR9.set {W0 w : World} {vb vd vt bp lb : Nat} {s1 : St} {tv dv : Value} (h : TR9 W0 vb vd vt bp lb s1 tv dv false w) (n1 : vb ≠ vd) (n2 : vt ≠ vd) (n3 : bp ≠ vd) (n4 : lb ≠ vd) : TR9 W0 vb vd vt bp lb s1 tv dv true (w.setRow vd #[.string (tx s1.l), .int .i64 s1.k]) :=
  ⟨h.1.other h.2.2.2.1 (by decide) n3 n4 fun b _ hn => setRow_other w vd b _ hn, (setRow_other w vd vb _ n1).trans h.2.1, (setRow_other w vd vt _ n2).trans h.2.2.1, setRow_heap _ _ _ _ _ _ h.2.2.2.1, h.2.2.2.2.trans (Save.row w _ (by simp))⟩
theorem TR9.put {W0 w : World} {vb vd vt bp lb : Nat} {s1 : St} {tv dv : Value} {b : Bool} (h : TR9 W0 vb vd vt bp lb s1 tv dv b w) (n1 : vb ≠ vt) (n2 : vd ≠ vt) (n3 : bp ≠ vt) (n4 : lb ≠ vt) : TR9 W0 vb vd vt bp lb s1 tv dv b (w.setCell ⟨vt, 0, none⟩ tv) := by
  obtain ⟨dv', hb⟩ := BE.set ⟨dv, h.1⟩ h.2.2.1 (by decide) n3 n4 tv
  exact ⟨h.1.other h.2.2.1 (by decide) n3 n4 fun b _ hn => Below.heap_setCell w ⟨vt, 0, none⟩ tv b (by simpa using hn), h.2.1.far vt 0 tv n1, h.2.2.1.set tv, (Below.heap_setCell w ⟨vt, 0, none⟩ tv vd (by simpa using n2)).trans h.2.2.2.1, h.2.2.2.2.trans (Save.set w 0 tv (by simp))⟩
set_option maxHeartbeats 2000000 in
theorem run_any (bp lb : Nat) (sv : Value) (es : List Ed) (ts : List Bs) (s0 s1 : St) (w : World) (hsc : Script w sv es) (hb : BE w bp lb s0.l s0.k s0.pc) (hc : Chain es s0 s1 ts) (hn : es.length ≤ 100000) (ns : ∀ b o n c, sv = .slice (some ⟨b, o, none⟩) n c → b ≠ bp ∧ b ≠ lb ∧ b < w.heap.size) (hsl : ∃ a n c, sv = .slice a n c) :
    Calls Tryd.prog 33 #[.pointer (some ⟨bp, 0, none⟩), sv] w fun e w' => ∃ tv, e = .returned (.tuple #[.agg #[.string (tx s1.l), .int .i64 s1.k], tv, .bool true]) ∧ Two bp lb w w' ∧ w'.ownsRow w.heap.size 9 1 tv ts.length (ts.map fun x => .string (tx x)) := by
  have HSC := Lib.hid hsc
  have HB := Lib.hid hb
  have HC := Lib.hid hc
  have NS := Lib.hid ns
  have hbl : Hid (bp < w.heap.size ∧ lb < w.heap.size) := by obtain ⟨_, g⟩ := hb; exact g.lt
  obtain ⟨sa, sn, sc, rfl⟩ := hsl
  have hmf : ∀ (fn : Fn) (first cap : Array Value) (w : World), (Instr.makeFunc fn first cap).run Tryd.prog w = .ok (.func fn first cap) w := fun _ _ _ _ => rfl
  clear hsc hb hc ns
  go_enter Tryd.func33, Tryd.ntmps33
  go_upto_region 2 with fail
  obtain ⟨W5, b1, b2, b3, b4, hW, e1, e2, e3, e4, o5, z5, h0, h1, h2, h3, h4⟩ := boxes5 w bp (.slice sa sn sc)
  rw [← hW, ← e1, ← e2, ← e3, ← e4]
  have hlt := hbl.out
  have hx := runc_any b1 w.heap.size b4 b3 bp lb (.slice sa sn sc) es ts s0 s1 W5 h1 (HSC.out.old o5) h0 h4 h3 (HB.out.old o5) HC.out hn (by omega) (by omega) (by omega) (by omega) (by omega) (by omega) (by omega) (by omega) (by omega) (fun b o n c e => by have := NS.out b o n c e; simp; omega)
  have HX := Lib.hid hx
  have O5 := Lib.hid o5
  have H2 := Lib.hid h2
  have E9 : Hid (b1 = w.heap.size + 1 ∧ b2 = b1 + 1 ∧ b3 = b2 + 1 ∧ b4 = b3 + 1 ∧ W5.heap.size = b4 + 1) := ⟨e1, e2, e3, e4, z5⟩
  clear hx hW e1 e2 e3 e4 o5 z5 h0 h1 h2 h3 h4 hlt
  go_upto_region 3 with (go_at_call 59; refine HX.out.mono ?_; rintro e w6 ⟨rfl, tv, r⟩; obtain ⟨ta, tn, tc, rfl⟩ := own_slice r.o; have RX := Lib.hid r; clear r)
  have cf := RX.out.f.cell
  go_upto_region 5 with fail
  clear cf
  obtain ⟨dv, hB9⟩ := RX.out.b
  have HB9 := Lib.hid hB9
  clear hB9
  have h26 : w6.heap[b2]? = some (.cells #[.string ⟨#[]⟩, .int .i64 0] 34) := (RX.out.s.block b2 (by have := E9.out; omega) (by have h1 := E9.out; have h2 := hbl.out; simp; omega)).trans H2.out
  have T0 : Hid (TR9 w6 w.heap.size b2 b3 bp lb s1 (.slice ta tn tc) dv false w6.drew) := TR9.old ⟨HB9.out, RX.out.m, RX.out.t, h26, Save.of_old (Old.refl _)⟩ (Old.drew _)
  clear h26
  obtain ⟨vd, hvd⟩ : ∃ vd, vd = b2 := ⟨_, rfl⟩
  rw [← hvd] at T0 ⊢
  have HVD := Lib.hid hvd
  clear hvd
  have NN : Hid (w.heap.size ≠ vd ∧ b3 ≠ vd ∧ bp ≠ vd ∧ lb ≠ vd ∧ w.heap.size ≠ b3 ∧ vd ≠ b3 ∧ bp ≠ b3 ∧ lb ≠ b3) := by
    have h1 := E9.out
    have h2 := HVD.out
    have h3 := hbl.out
    refine ⟨?_, ?_, ?_, ?_, ?_, ?_, ?_, ?_⟩ <;> omega
  refine wp_region_noPanic ?_
  refine wp_region_T (TR9 w6 w.heap.size vd b3 bp lb s1 (.slice ta tn tc) dv) 6 (by kernel_rfl) (T0.out) ?_
  refine wpT_take (i := 0) (v := ?_) rfl (by kernel_rfl) (by kernel_rfl) (by kernel_rfl) (Or.inl ⟨by rfl, ?_⟩) ?_
  rotate_left
  · (intro b hb w hT; have h0 := hT.2.1.cell; have h1 := hT.2.2.1.cell; go_simp; exact Lands.value hT)
  try simp only [Act.put, List.getElem_toArray, List.getElem_cons_succ, List.getElem_cons_zero, List.setIfInBounds_toArray, List.set_cons_zero, List.set_cons_succ]
  refine wpT_take (i := 1) (v := .string (tx s1.l)) rfl (by kernel_rfl) (by kernel_rfl) (by kernel_rfl) (Or.inl ⟨by rfl, ?_⟩) ?_
  · (intro b hb w hT; go_simp; exact Lands.enter ((text_any bp lb _ _ _ _ w hT.1).mono fun e w' h => by obtain ⟨he, n, rfl⟩ := h; exact ⟨he, hT.old (Old.drewN _ _)⟩))
  try simp only [Act.put, List.getElem_toArray, List.getElem_cons_succ, List.getElem_cons_zero, List.setIfInBounds_toArray, List.set_cons_zero, List.set_cons_succ]
  refine wpT_take (i := 2) (v := ?_) rfl (by kernel_rfl) (by kernel_rfl) (by kernel_rfl) (Or.inl ⟨by rfl, ?_⟩) ?_
  rotate_left
  · (intro b hb w hT; have h0 := hT.2.1.cell; have h1 := hT.2.2.1.cell; go_simp; exact Lands.value hT)
  try simp only [Act.put, List.getElem_toArray, List.getElem_cons_succ, List.getElem_cons_zero, List.setIfInBounds_toArray, List.set_cons_zero, List.set_cons_succ]
  refine wpT_take (i := 3) (v := .int .i64 s1.k) rfl (by kernel_rfl) (by kernel_rfl) (by kernel_rfl) (Or.inl ⟨by rfl, ?_⟩) ?_
  · (intro b hb w hT; go_simp; exact Lands.calls (at_any bp lb _ _ _ _ w hT.1) hT)
  try simp only [Act.put, List.getElem_toArray, List.getElem_cons_succ, List.getElem_cons_zero, List.setIfInBounds_toArray, List.set_cons_zero, List.set_cons_succ]
  refine wpT_take (i := 4) (v := ?_) rfl (by kernel_rfl) (by kernel_rfl) (by kernel_rfl) (Or.inl ⟨by rfl, ?_⟩) ?_
  rotate_left
  · (intro b hb w hT; go_simp; exact Lands.value hT)
  try simp only [Act.put, List.getElem_toArray, List.getElem_cons_succ, List.getElem_cons_zero, List.setIfInBounds_toArray, List.set_cons_zero, List.set_cons_succ]
  refine wpT_take (i := 5) (v := ?_) rfl (by kernel_rfl) (by kernel_rfl) (by kernel_rfl) (Or.inl ⟨by rfl, ?_⟩) ?_
  rotate_left
  · (intro b hb w hT; have h0 := hT.2.1.cell; have h1 := hT.2.2.1.cell; go_simp; exact Lands.value hT)
  try simp only [Act.put, List.getElem_toArray, List.getElem_cons_succ, List.getElem_cons_zero, List.setIfInBounds_toArray, List.set_cons_zero, List.set_cons_succ]
  refine wpT_take (i := 6) (v := undef) rfl (by kernel_rfl) (by kernel_rfl) (by kernel_rfl) (Or.inl ⟨by rfl, ?_⟩) ?_
  · (intro b hb w hT; obtain rfl : b = false := hb rfl; refine Lands.store_row 34 _ _ rfl vd #[.string (tx s1.l), .int .i64 s1.k] rfl rfl 34 _ hT.2.2.2.1 (by kernel_rfl) rfl (by simp [Value.oneCell']) ?_; exact hT.set NN.out.1 NN.out.2.1 NN.out.2.2.1 NN.out.2.2.2.1)
  try simp only [Act.put, List.getElem_toArray, List.getElem_cons_succ, List.getElem_cons_zero, List.setIfInBounds_toArray, List.set_cons_zero, List.set_cons_succ]
  refine wpT_take (i := 7) (v := undef) rfl (by kernel_rfl) (by kernel_rfl) (by kernel_rfl) (Or.inl ⟨by rfl, ?_⟩) ?_
  · (intro b hb w hT; have h0 := hT.2.2.1.cell; have z0 := hT.2.2.1.frozen; go_simp; exact Lands.skip (hT.put NN.out.2.2.2.2.1 NN.out.2.2.2.2.2.1 NN.out.2.2.2.2.2.2.1 NN.out.2.2.2.2.2.2.2))
  try simp only [Act.put, List.getElem_toArray, List.getElem_cons_succ, List.getElem_cons_zero, List.setIfInBounds_toArray, List.set_cons_zero, List.set_cons_succ]
  refine wpT_take (i := 8) (v := ?_) rfl (by kernel_rfl) (by kernel_rfl) (by kernel_rfl) (Or.inl ⟨by rfl, ?_⟩) ?_
  rotate_left
  · (intro b hb w hT; go_simp; exact Lands.value hT)
  try simp only [Act.put, List.getElem_toArray, List.getElem_cons_succ, List.getElem_cons_zero, List.setIfInBounds_toArray, List.set_cons_zero, List.set_cons_succ]
  refine wpT_done (by kernel_rfl) ?_ _
  intro wt hT
  refine NoPanic.normal ?_
  have HZ := Lib.hid hT
  have y0 : wt.cell? ⟨vd, 0, none⟩ = some (.string (tx s1.l)) := (bcell hT.2.2.2.1 0).trans rfl
  have y1 : wt.cell? ⟨vd, 1, none⟩ = some (.int .i64 s1.k) := (bcell hT.2.2.2.1 1).trans rfl
  have y2 := hT.2.2.1.cell
  clear hT
  go_wp2_with fail
  refine bodyPost_ret (v := .tuple #[.agg #[.string (tx s1.l), .int .i64 s1.k], .slice ta tn tc, .bool true]) ?_ rfl ⟨_, rfl, ?_, ?_⟩
  · simp [results, Tryd.results33, go_sem, asAddr, y0, y1, y2]
  · have h1 := E9.out
    have h2 := HVD.out
    have h3 := hbl.out
    have g1 := HZ.out.2.2.2.2
    have g2 := RX.out.s
    have g3 := O5.out
    refine ⟨g1.os.trans (g2.os.trans (Below.os g3)), g1.tape.trans (g2.tape.trans (Below.tape g3)), g1.output.trans (g2.output.trans (Below.output g3)), Nat.le_trans g3.size (Nat.le_trans g2.size g1.size), fun q hq n1 n2 => ?_⟩
    have z1 := g3.size
    have z2 := g2.size
    refine (g1.block q (by omega) (by simp; omega)).trans ((g2.block q (by omega) (by simp; omega)).trans (Below.block g3 q hq))
  · have h1 := E9.out
    have h2 := HVD.out
    have ho := RX.out.o
    exact own_down (own_keep ho fun g hg hgl => HZ.out.2.2.2.2.block g hgl (by have h3 := (own_inside ho g hg).1; simp; omega)) (by have := O5.out.size; omega)
end Go.Proofs.YtleamondilmojaaDoor
