/- laws.one7: one step of a script. (Printed by mkone7.py.) -/
import Derived.Test.YtleamondilmojaaDoorLawE
import Derived.Test.YtleamondilmojaaDoorAnyT
import Derived.Deep.RegionHeld3
namespace Go.Proofs.YtleamondilmojaaDoor
open Go.RowKit
set_option linter.unusedVariables false
set_option linter.unusedSimpArgs false
set_option linter.unnecessarySimpa false
set_option maxRecDepth 100000

/-- Within one7, at its end. -/
def TO (W0 : World) (x g tb : Nat) (s1 : St) (t : Bs) (b : Bool) (w : World) : Prop := DB w x s1.l s1.k ∧ w.cell? ⟨tb, 0, none⟩ = some (.string (tx t)) ∧ w.heap[g]? = some (.cells (if b then #[.string (tx s1.l), .int .i64 s1.k] else #[.string ⟨#[]⟩, .int .i64 0]) 34) ∧ Save [g] W0 w
theorem TO.old {W0 w w' : World} {x g tb : Nat} {s1 : St} {t : Bs} {b : Bool} (h : TO W0 x g tb s1 t b w) (o : Old w w') : TO W0 x g tb s1 t b w' :=
  ⟨h.1.old o, (o.cell (World.block_lt_of_cell? w _ h.2.1)).trans h.2.1, (o.heap (Array.getElem?_eq_some_iff.1 h.2.2.1).1).trans h.2.2.1, h.2.2.2.trans (Save.of_old o)⟩
theorem TO.set {W0 w : World} {x g tb : Nat} {s1 : St} {t : Bs} (h : TO W0 x g tb s1 t false w) (n1 : x ≠ g) (n2 : tb ≠ g) : TO W0 x g tb s1 t true (w.setRow g #[.string (tx s1.l), .int .i64 s1.k]) :=
  ⟨(setRow_other w g x _ n1).trans h.1, (World.cell?_of_block (w := w) (a := ⟨tb, 0, none⟩) (setRow_other w g tb _ n2)).trans h.2.1, setRow_heap _ _ _ _ _ _ h.2.2.1, h.2.2.2.trans (Save.row w _ (by simp))⟩
set_option maxHeartbeats 1000000 in
theorem one7_any (l : Bs) (k : Nat) (op n : Int) (et : ByteArray) (f : Bool) (s1 : St) (t : Bs) (w : World) (hk : k ≤ l.length) (ok : okT l) (d : Does ⟨op, n, et, f⟩ ⟨l, k, -1⟩ s1 t) :
    Calls Tryd.prog 20 #[.agg #[.string (tx l), .int .i64 k], .agg #[.int .i64 op, .int .i64 n, .string et, .bool f]] w fun e w' => e = .returned (.tuple #[.agg #[.string (tx s1.l), .int .i64 s1.k], .string (tx t), .bool true]) ∧ Old w w' := by
  obtain ⟨W0, hW⟩ : ∃ W0, W0 = ((w.alloc (.cells #[.string (tx l), .int .i64 k] 34)).alloc (.cells #[.int .i64 op, .int .i64 n, .string et, .bool f] 40)).alloc (.cells #[.string ⟨#[]⟩, .int .i64 0] 34) := ⟨_, rfl⟩
  obtain ⟨x0, hx0⟩ : ∃ x, x = w.alloc (.cells #[.string (tx l), .int .i64 k] 34) := ⟨_, rfl⟩
  obtain ⟨x1, hx1⟩ : ∃ x, x = x0.alloc (.cells #[.int .i64 op, .int .i64 n, .string et, .bool f] 40) := ⟨_, rfl⟩
  have hW2 : W0 = x1.alloc (.cells #[.string ⟨#[]⟩, .int .i64 0] 34) := by rw [hW, hx1, hx0]
  have s0 : x0.heap.size = w.heap.size + 1 := by rw [hx0]; simp
  have s1_ : x1.heap.size = w.heap.size + 1 + 1 := by rw [hx1]; simp; exact s0
  have o0 : Old w x0 := by rw [hx0]; exact Old.alloc _ _
  have o1 : Old x0 x1 := by rw [hx1]; exact Old.alloc _ _
  have o2 : Old x1 W0 := by rw [hW2]; exact Old.alloc _ _
  have b0 : DB x0 w.heap.size l k := by rw [hx0]; exact DB.new w l k
  have b1 : x1.heap[w.heap.size + 1]? = some (.cells #[.int .i64 op, .int .i64 n, .string et, .bool f] 40) := by rw [hx1, ← s0]; exact heap_alloc_new x0 _
  have b2 : W0.heap[w.heap.size + 1 + 1]? = some (.cells #[.string ⟨#[]⟩, .int .i64 0] 34) := by rw [hW2, ← s1_]; exact heap_alloc_new x1 _
  have B0 := Lib.hid (b0.old (o1.trans o2))
  have b1z : W0.heap[w.heap.size + 1]? = some (.cells #[.int .i64 op, .int .i64 n, .string et, .bool f] 40) := (o2.heap (Array.getElem?_eq_some_iff.1 b1).1).trans b1
  have B2 := Lib.hid b2
  have OW := Lib.hid (o0.trans (o1.trans o2))
  have DD := Lib.hid d
  have OK := Lib.hid ok
  have HW := Lib.hid hW
  have c0 := B0.out.c0
  have c1 := B0.out.c1
  have e0 := (bcell b1z 0).trans rfl
  have e1 := (bcell b1z 1).trans rfl
  have e2 := (bcell b1z 2).trans rfl
  have e3 := (bcell b1z 3).trans rfl
  clear hW hx0 hx1 hW2 s0 s1_ o0 o1 o2 b0 b1 b2 b1z d ok x0 x1
  have EF := Lib.hid (fun w6 => ef_any l k (.slice (some ⟨w6.heap.size, 0, none⟩) 1 1) [⟨op, n, et, f⟩] [t] s1 (w6.alloc (.cells #[.int .i64 op, .int .i64 n, .string et, .bool f] 40)) hk OK.out (script_one w6 op n et f) (sin_one _ _ _ _) (Chain.one DD.out) (by simp))
  go_enter Tryd.func20, Tryd.ntmps20
  go_upto_region 1 with fail
  rw [← HW.out]
  obtain ⟨g, hg⟩ : ∃ g, g = w.heap.size + 1 + 1 := ⟨_, rfl⟩
  rw [← hg] at B2
  rw [← hg]
  have HG := Lib.hid hg
  clear hg HW
  go_upto_region 2 with (go_at_call 17; refine (EF.out _).mono ?_; rintro e w7 ⟨tv7, rfl, o7, own7⟩; have P7 := Lib.hid ((Old.alloc _ _).trans o7); obtain ⟨tb, tc, rfl, q1, q2, q3, q4⟩ := taken_cell own7 (by simp); have hbase := (own_lt own7).1; have TBG : Hid (W0.heap.size < tb) := (by unfold Hid; have h1 := (own_lt own7).1; simp at h1; omega); have CT := Lib.hid (q4 0 (by simp)); have LTT := Lib.hid (And.intro q1 q2); clear o7 own7 q4 q1 q2 q3 hbase)
  have bm := Lib.hid (DB.new w7 s1.l s1.k)
  have P8 := Lib.hid (P7.out.trans (Old.alloc w7 (.cells #[.string (tx s1.l), .int .i64 s1.k] 34)))
  have C8 := Lib.hid (((Old.alloc w7 (.cells #[.string (tx s1.l), .int .i64 s1.k] 34)).cell LTT.out.1).trans CT.out)
  obtain ⟨x, hx⟩ : ∃ x, x = w7.heap.size := ⟨_, rfl⟩
  rw [← hx] at bm ⊢
  have HX : Hid (W0.heap.size ≤ x) := by rw [hx]; exact P7.out.size
  have i1 : (1 : Int) ≤ tc := by have := LTT.out.2; simp at this; omega
  clear hx e0 e1 e2 e3 c0 c1
  generalize w7.alloc (.cells #[.string (tx s1.l), .int .i64 s1.k] 34) = w8 at bm P8 C8 ⊢
  go_upto_region 4 with fail
  have NE : Hid (x ≠ g ∧ tb ≠ g) := by
    have h1 := (Array.getElem?_eq_some_iff.1 B2.out).1
    have h2 := HX.out
    have h3 := TBG.out
    exact ⟨by omega, by omega⟩
  have T0 : TO w8 x g tb s1 t false w8.drew := TO.old ⟨bm.out, C8.out, (P8.out.heap (Array.getElem?_eq_some_iff.1 B2.out).1).trans B2.out, Save.of_old (Old.refl _)⟩ (Old.drew _)
  refine wp_region_noPanic ?_
  refine wp_region_T (TO w8 x g tb s1 t) 4 (by kernel_rfl) (T0) ?_
  refine wpT_take (i := 0) (v := .agg #[.string (tx s1.l), .int .i64 s1.k]) rfl (by kernel_rfl) (by kernel_rfl) (by kernel_rfl) (Or.inl ⟨by rfl, ?_⟩) ?_
  · (intro b hb w hT; have h0 := hT.1.c0; have h1 := hT.1.c1; go_simp; exact Lands.value hT)
  try simp only [Act.put, List.getElem_toArray, List.getElem_cons_succ, List.getElem_cons_zero, List.setIfInBounds_toArray, List.set_cons_zero, List.set_cons_succ]
  refine wpT_take (i := 1) (v := ?_) rfl (by kernel_rfl) (by kernel_rfl) (by kernel_rfl) (Or.inl ⟨by rfl, ?_⟩) ?_
  rotate_left
  · (intro b hb w hT; go_simp; exact Lands.value hT)
  try simp only [Act.put, List.getElem_toArray, List.getElem_cons_succ, List.getElem_cons_zero, List.setIfInBounds_toArray, List.set_cons_zero, List.set_cons_succ]
  refine wpT_take (i := 2) (v := ?_) rfl (by kernel_rfl) (by kernel_rfl) (by kernel_rfl) (Or.inl ⟨by rfl, ?_⟩) ?_
  rotate_left
  · (intro b hb w hT; go_simp; exact Lands.value hT)
  try simp only [Act.put, List.getElem_toArray, List.getElem_cons_succ, List.getElem_cons_zero, List.setIfInBounds_toArray, List.set_cons_zero, List.set_cons_succ]
  refine wpT_take (i := 3) (v := .string (tx t)) rfl (by kernel_rfl) (by kernel_rfl) (by kernel_rfl) (Or.inl ⟨by rfl, ?_⟩) ?_
  · (intro b hb w hT; have h0 := hT.2.1; go_simp; exact Lands.value hT)
  try simp only [Act.put, List.getElem_toArray, List.getElem_cons_succ, List.getElem_cons_zero, List.setIfInBounds_toArray, List.set_cons_zero, List.set_cons_succ]
  refine wpT_take (i := 4) (v := undef) rfl (by kernel_rfl) (by kernel_rfl) (by kernel_rfl) (Or.inl ⟨by rfl, ?_⟩) ?_
  · (intro b hb w hT; obtain rfl : b = false := hb rfl; refine Lands.store_row 34 _ _ rfl g #[.string (tx s1.l), .int .i64 s1.k] rfl rfl 34 _ hT.2.2.1 (by kernel_rfl) rfl (by simp [Value.oneCell']) ?_; exact hT.set NE.out.1 NE.out.2)
  try simp only [Act.put, List.getElem_toArray, List.getElem_cons_succ, List.getElem_cons_zero, List.setIfInBounds_toArray, List.set_cons_zero, List.set_cons_succ]
  refine wpT_take (i := 5) (v := ?_) rfl (by kernel_rfl) (by kernel_rfl) (by kernel_rfl) (Or.inl ⟨by rfl, ?_⟩) ?_
  rotate_left
  · (intro b hb w hT; go_simp; exact Lands.value hT)
  try simp only [Act.put, List.getElem_toArray, List.getElem_cons_succ, List.getElem_cons_zero, List.setIfInBounds_toArray, List.set_cons_zero, List.set_cons_succ]
  refine wpT_take (i := 6) (v := ?_) rfl (by kernel_rfl) (by kernel_rfl) (by kernel_rfl) (Or.inl ⟨by rfl, ?_⟩) ?_
  rotate_left
  · (intro b hb w hT; go_simp; exact Lands.value hT)
  try simp only [Act.put, List.getElem_toArray, List.getElem_cons_succ, List.getElem_cons_zero, List.setIfInBounds_toArray, List.set_cons_zero, List.set_cons_succ]
  refine wpT_done (by kernel_rfl) ?_ _
  intro wt hT
  refine NoPanic.normal ?_
  have HT := Lib.hid hT
  have y0 : wt.cell? ⟨g, 0, none⟩ = some (.string (tx s1.l)) := (bcell hT.2.2.1 0).trans rfl
  have y1 : wt.cell? ⟨g, 1, none⟩ = some (.int .i64 s1.k) := (bcell hT.2.2.1 1).trans rfl
  clear hT T0
  go_wp2_with fail
  refine bodyPost_ret (v := .tuple #[.agg #[.string (tx s1.l), .int .i64 s1.k], .string (tx t), .bool true]) ?_ rfl ⟨rfl, ?_⟩
  · simp [results, Tryd.results20, go_sem, asAddr, y0, y1]
  · refine Save.old (OW.out.trans P8.out) HT.out.2.2.2 (fun q hq => ?_)
    have h1 := HG.out
    simp at hq; omega
end Go.Proofs.YtleamondilmojaaDoor
