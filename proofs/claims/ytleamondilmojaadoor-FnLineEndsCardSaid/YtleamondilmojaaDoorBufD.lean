/- (*Buffer).Document: the document of the text and the cursor. (Printed by mkbufd.py.) -/
import Derived.Test.YtleamondilmojaaDoorBufE
import Derived.Test.YtleamondilmojaaDoorAnyX
import Derived.Test.YtleamondilmojaaDoorStepA
import Derived.Deep.Cut
import Derived.Deep.RegionHeld3
namespace Go.Proofs.YtleamondilmojaaDoor
open Go.RowKit
set_option linter.unusedVariables false
set_option linter.unusedSimpArgs false
set_option linter.unnecessarySimpa false
set_option maxRecDepth 100000

theorem toListE (s : ByteArray) : s.toList = bs s := ByteArray.toList_eq s
theorem toList_neE {a b : ByteArray} (h : a ≠ b) : (a.toList == b.toList) = false := by
  rw [beq_eq_false_iff_ne, toListE, toListE]
  intro e; apply h; rw [← tx_bs a, ← tx_bs b, e]

/-- Within the making of a document. -/
def TDo (W0 : World) (bp lb : Nat) (l : Bs) (k : Nat) (pc : Int) (dv : Value) (w : World) : Prop := B9 w bp lb l k pc dv ∧ Old W0 w
theorem TDo.old {W0 w w' : World} {bp lb : Nat} {l : Bs} {k : Nat} {pc : Int} {dv : Value} (h : TDo W0 bp lb l k pc dv w) (o : Old w w') : TDo W0 bp lb l k pc dv w' := ⟨h.1.old o, h.2.trans o⟩
def VDo (bp : Nat) (l : Bs) (k : Nat) (i : Nat) (v : Value) : Prop := match i with
  | 2 => v = .string (tx l)
  | 5 => v = .pointer (some ⟨bp, 2, none⟩)
  | 6 => v = .int .i64 k
  | 7 => v = .agg #[.string (tx l), .int .i64 k]
  | 8 => ∃ g, v = .pointer (some ⟨g, 0, none⟩)
  | 10 => v = .pointer (some ⟨bp, 3, none⟩)
  | _ => v = .pointer (some ⟨bp, 0, none⟩)
def WDo (W0 : World) (l : Bs) (k : Nat) (i : Nat) (v : Value) (w : World) : Prop := match i with
  | 8 => ∀ g, v = .pointer (some ⟨g, 0, none⟩) → W0.heap.size ≤ g ∧ w.heap[g]? = some (.cells #[.string (tx l), .int .i64 k] 86)
  | _ => True
def blkDo (i : Nat) (v : Value) : Option Nat := match i, v with
  | 8, .pointer (some a) => some a.block
  | _, _ => none
theorem WDo.old {W0 : World} {l : Bs} {k i : Nat} {v : Value} {w w' : World} (h : WDo W0 l k i v w) (o : Old w w') : WDo W0 l k i v w' := by
  unfold WDo at *
  split at h
  · exact fun g e => ⟨(h g e).1, (o.heap (Array.getElem?_eq_some_iff.1 (h g e).2).1).trans (h g e).2⟩
  · trivial
theorem fresh_maxE (l : List Nat) : l.foldr max 0 + 1 ∉ l := by
  have : ∀ b ∈ l, b ≤ l.foldr max 0 := by
    induction l with
    | nil => intro b h; cases h
    | cons a l ih =>
      intro b h
      simp only [List.foldr_cons]
      rcases List.mem_cons.1 h with rfl | h
      · omega
      · have := ih b h; omega
  intro h
  have := this _ h
  omega
theorem lands_boxE (W0 : World) (bp lb : Nat) (l : Bs) (k : Nat) (pc : Int) (dv : Value) {w : World} (hT : TDo W0 bp lb l k pc dv w) {P : Program} : LandsX P (fun v w' => TDo W0 bp lb l k pc dv w' ∧ (∃ g, v = .pointer (some ⟨g, 0, none⟩)) ∧ (∀ g, v = .pointer (some ⟨g, 0, none⟩) → W0.heap.size ≤ g ∧ w'.heap[g]? = some (.cells #[.string (tx l), .int .i64 k] 86)) ∧ Old w w' ∧ ∀ b, (match v with | .pointer (some a) => some a.block | _ => none) = some b → w.heap.size ≤ b ∧ b < w'.heap.size)
    (.ok (.value (.pointer (some ⟨w.heap.size, 0, none⟩))) (w.alloc (.cells #[.string (tx l), .int .i64 k] 86))) := by
  refine LandsX.value ⟨hT.old (Old.alloc _ _), ⟨_, rfl⟩, fun g e => ?_, Old.alloc _ _, fun b h => ?_⟩
  · injection e with e; injection e with e; injection e with e
    subst e
    exact ⟨hT.2.size, heap_alloc_new w _⟩
  · obtain rfl := Option.some.inj h
    exact ⟨Nat.le_refl _, by simp⟩

/-- What Document hands back. -/
def DocPost (bp lb : Nat) (l : Bs) (k : Nat) (pc : Int) (w : World) (e : Ending) (w' : World) : Prop :=
  ∃ dp, e = .returned (.pointer (some ⟨dp, 0, none⟩)) ∧ DP w' dp l k ∧ B9 w' bp lb l k pc (.pointer (some ⟨dp, 0, none⟩)) ∧ Two bp lb w w' ∧ dp ≠ bp ∧ dp ≠ lb
set_option maxHeartbeats 2000000 in
theorem doc_new (bp lb : Nat) (l : Bs) (k : Nat) (pc : Int) (w : World) (h : B9 w bp lb l k pc (.pointer none)) :
    Calls Tryd.prog 106 #[.pointer (some ⟨bp, 0, none⟩)] w (DocPost bp lb l k pc w) := by
  obtain ⟨W0, hW0⟩ : ∃ W0, W0 = w := ⟨_, rfl⟩
  have HB := Lib.hid h
  have HW0 := Lib.hid hW0
  have c2 := h.c2
  have c3 := h.c3
  have f3 := h.free 3
  clear h hW0
  go_enter Tryd.func106, Tryd.ntmps106
  go_wp2_with fail
  go_quiet ((go_at_call 62; exact Calls.quiet_of (text_any bp lb l k pc _ _ (HB.out.old (Old.drewN _ _)))))
  go_wp2_with fail
  have T0 : Hid (TDo W0 bp lb l k pc (.pointer none) (w.drewN nq).drew) := by
    have hw := HW0.out
    subst hw
    exact ⟨HB.out.old ((Old.drewN _ _).then_drew), (Old.drewN _ _).then_drew⟩
  refine wp_region_noPanic ?_
  refine wp_region_X (TDo W0 bp lb l k pc (.pointer none)) (VDo bp l k) (WDo W0 l k) (fun j => decide (11 ≤ j)) (blkDo) 11 1 (fun i v w w' => WDo.old) (by kernel_rfl) T0.out rfl ?_
  refine wpX_take (i := 0) rfl (by kernel_rfl) (fun _ => .pointer (some ⟨bp, 0, none⟩)) (fun _ => ⟨rfl, fun b h => by cases h⟩) (by kernel_rfl) (by kernel_rfl) (by kernel_rfl) (by kernel_rfl) rfl ⟨by rfl, ?_⟩ ?_
  · (intro w hT; have h0 := hT.1.c2; go_simp; exact LandsX.value ⟨hT, rfl, trivial, Old.refl _, fun b h => by cases h⟩)
  intro v0 hv0 hf0
  obtain rfl : v0 = _ := hv0
  try simp only [Act.put, List.getElem_toArray, List.getElem_cons_succ, List.getElem_cons_zero, List.setIfInBounds_toArray, List.set_cons_zero, List.set_cons_succ]
  refine wpX_take (i := 1) rfl (by kernel_rfl) (fun _ => .pointer (some ⟨bp, 0, none⟩)) (fun _ => ⟨rfl, fun b h => by cases h⟩) (by kernel_rfl) (by kernel_rfl) (by kernel_rfl) (by kernel_rfl) rfl ⟨by rfl, ?_⟩ ?_
  · (intro w hT; have h0 := hT.1.c2; go_simp; exact LandsX.value ⟨hT, rfl, trivial, Old.refl _, fun b h => by cases h⟩)
  intro v1 hv1 hf1
  obtain rfl : v1 = _ := hv1
  try simp only [Act.put, List.getElem_toArray, List.getElem_cons_succ, List.getElem_cons_zero, List.setIfInBounds_toArray, List.set_cons_zero, List.set_cons_succ]
  refine wpX_take (i := 2) rfl (by kernel_rfl) (fun _ => .string (tx l)) (fun _ => ⟨rfl, fun b h => by cases h⟩) (by kernel_rfl) (by kernel_rfl) (by kernel_rfl) (by kernel_rfl) rfl ⟨by rfl, ?_⟩ ?_
  · (intro w hT; go_simp; exact LandsX.enter ((text_any bp lb l k pc _ _ hT.1).mono fun e w' h => by obtain ⟨he, n, rfl⟩ := h; exact ⟨_, he, hT.old (Old.drewN _ _), rfl, trivial, Old.drewN _ _, fun b h => by cases h⟩))
  intro v2 hv2 hf2
  obtain rfl : v2 = _ := hv2
  try simp only [Act.put, List.getElem_toArray, List.getElem_cons_succ, List.getElem_cons_zero, List.setIfInBounds_toArray, List.set_cons_zero, List.set_cons_succ]
  refine wpX_take (i := 3) rfl (by kernel_rfl) (fun _ => .pointer (some ⟨bp, 0, none⟩)) (fun _ => ⟨rfl, fun b h => by cases h⟩) (by kernel_rfl) (by kernel_rfl) (by kernel_rfl) (by kernel_rfl) rfl ⟨by rfl, ?_⟩ ?_
  · (intro w hT; have h0 := hT.1.c2; go_simp; exact LandsX.value ⟨hT, rfl, trivial, Old.refl _, fun b h => by cases h⟩)
  intro v3 hv3 hf3
  obtain rfl : v3 = _ := hv3
  try simp only [Act.put, List.getElem_toArray, List.getElem_cons_succ, List.getElem_cons_zero, List.setIfInBounds_toArray, List.set_cons_zero, List.set_cons_succ]
  refine wpX_take (i := 4) rfl (by kernel_rfl) (fun _ => .pointer (some ⟨bp, 0, none⟩)) (fun _ => ⟨rfl, fun b h => by cases h⟩) (by kernel_rfl) (by kernel_rfl) (by kernel_rfl) (by kernel_rfl) rfl ⟨by rfl, ?_⟩ ?_
  · (intro w hT; have h0 := hT.1.c2; go_simp; exact LandsX.value ⟨hT, rfl, trivial, Old.refl _, fun b h => by cases h⟩)
  intro v4 hv4 hf4
  obtain rfl : v4 = _ := hv4
  try simp only [Act.put, List.getElem_toArray, List.getElem_cons_succ, List.getElem_cons_zero, List.setIfInBounds_toArray, List.set_cons_zero, List.set_cons_succ]
  refine wpX_take (i := 5) rfl (by kernel_rfl) (fun _ => .pointer (some ⟨bp, 2, none⟩)) (fun _ => ⟨rfl, fun b h => by cases h⟩) (by kernel_rfl) (by kernel_rfl) (by kernel_rfl) (by kernel_rfl) rfl ⟨by rfl, ?_⟩ ?_
  · (intro w hT; have h0 := hT.1.c2; go_simp; exact LandsX.value ⟨hT, rfl, trivial, Old.refl _, fun b h => by cases h⟩)
  intro v5 hv5 hf5
  obtain rfl : v5 = _ := hv5
  try simp only [Act.put, List.getElem_toArray, List.getElem_cons_succ, List.getElem_cons_zero, List.setIfInBounds_toArray, List.set_cons_zero, List.set_cons_succ]
  refine wpX_take (i := 6) rfl (by kernel_rfl) (fun _ => .int .i64 k) (fun _ => ⟨rfl, fun b h => by cases h⟩) (by kernel_rfl) (by kernel_rfl) (by kernel_rfl) (by kernel_rfl) rfl ⟨by rfl, ?_⟩ ?_
  · (intro w hT; have h0 := hT.1.c2; go_simp; exact LandsX.value ⟨hT, rfl, trivial, Old.refl _, fun b h => by cases h⟩)
  intro v6 hv6 hf6
  obtain rfl : v6 = _ := hv6
  try simp only [Act.put, List.getElem_toArray, List.getElem_cons_succ, List.getElem_cons_zero, List.setIfInBounds_toArray, List.set_cons_zero, List.set_cons_succ]
  refine wpX_take (i := 7) rfl (by kernel_rfl) (fun _ => .agg #[.string (tx l), .int .i64 k]) (fun _ => ⟨rfl, fun b h => by cases h⟩) (by kernel_rfl) (by kernel_rfl) (by kernel_rfl) (by kernel_rfl) rfl ⟨by rfl, ?_⟩ ?_
  · (intro w hT; have h0 := hT.1.c2; go_simp; exact LandsX.value ⟨hT, rfl, trivial, Old.refl _, fun b h => by cases h⟩)
  intro v7 hv7 hf7
  obtain rfl : v7 = _ := hv7
  try simp only [Act.put, List.getElem_toArray, List.getElem_cons_succ, List.getElem_cons_zero, List.setIfInBounds_toArray, List.set_cons_zero, List.set_cons_succ]
  refine wpX_take (i := 8) rfl (by kernel_rfl) (fun bl => .pointer (some ⟨bl.foldr max 0 + 1, 0, none⟩)) (fun bl => ⟨⟨_, rfl⟩, fun b h => by obtain rfl := Option.some.inj h; exact fresh_maxE bl⟩) (by kernel_rfl) (by kernel_rfl) (by kernel_rfl) (by kernel_rfl) rfl ⟨by rfl, ?_⟩ ?_
  · (intro w hT; go_simp; exact lands_boxE (P := Tryd.prog) W0 bp lb l k pc (.pointer none) hT)
  intro v8 hv8 hf8
  obtain ⟨g, rfl⟩ := hv8
  try simp only [Act.put, List.getElem_toArray, List.getElem_cons_succ, List.getElem_cons_zero, List.setIfInBounds_toArray, List.set_cons_zero, List.set_cons_succ]
  refine wpX_take (i := 9) rfl (by kernel_rfl) (fun _ => .pointer (some ⟨bp, 0, none⟩)) (fun _ => ⟨rfl, fun b h => by cases h⟩) (by kernel_rfl) (by kernel_rfl) (by kernel_rfl) (by kernel_rfl) rfl ⟨by rfl, ?_⟩ ?_
  · (intro w hT; have h0 := hT.1.c2; go_simp; exact LandsX.value ⟨hT, rfl, trivial, Old.refl _, fun b h => by cases h⟩)
  intro v9 hv9 hf9
  obtain rfl : v9 = _ := hv9
  try simp only [Act.put, List.getElem_toArray, List.getElem_cons_succ, List.getElem_cons_zero, List.setIfInBounds_toArray, List.set_cons_zero, List.set_cons_succ]
  refine wpX_take (i := 10) rfl (by kernel_rfl) (fun _ => .pointer (some ⟨bp, 3, none⟩)) (fun _ => ⟨rfl, fun b h => by cases h⟩) (by kernel_rfl) (by kernel_rfl) (by kernel_rfl) (by kernel_rfl) rfl ⟨by rfl, ?_⟩ ?_
  · (intro w hT; have h0 := hT.1.c2; go_simp; exact LandsX.value ⟨hT, rfl, trivial, Old.refl _, fun b h => by cases h⟩)
  intro v10 hv10 hf10
  obtain rfl : v10 = _ := hv10
  try simp only [Act.put, List.getElem_toArray, List.getElem_cons_succ, List.getElem_cons_zero, List.setIfInBounds_toArray, List.set_cons_zero, List.set_cons_succ]
  refine wpX_tail (by kernel_rfl) ?_
  intro wt hT hG
  have hg := hG.1.1.2 g rfl
  have hB := hT.1
  have hne : g ≠ bp ∧ g ≠ lb := by
    have h1 := HB.out.lt
    have h2 := hg.1
    have h3 := HW0.out
    subst h3
    omega
  have c3t := hB.c3
  have f3t := hB.free 3
  have d0 : wt.cell? ⟨g, 0, none⟩ = some (.string (tx l)) := (bcell hg.2 0).trans rfl
  have d1 : wt.cell? ⟨g, 1, none⟩ = some (.int .i64 k) := (bcell hg.2 1).trans rfl
  have SB := Lib.hid (hB.setD (.pointer (some ⟨g, 0, none⟩)) (.inr ⟨g, _, _, rfl, hne.1, hne.2, hg.2⟩))
  have TT := Lib.hid ((Two.of_old (p := bp) (q := lb) hT.2).stored bp 3 (.pointer (some ⟨g, 0, none⟩)) (Or.inl rfl))
  have ND := Lib.hid hne
  have DD := Lib.hid hg.2
  clear hg hB hne d0 d1 hT hG hf0 hf1 hf2 hf3 hf4 hf5 hf6 hf7 hf8 hf9 hf10
  refine wpAny_one (i := 11) (by kernel_rfl) rfl (fun K hK => ?_)
  go_simp
  refine hK.out _ _ ?_
  clear hK K
  try simp only [Act.put, List.getElem_toArray, List.getElem_cons_succ, List.getElem_cons_zero, List.setIfInBounds_toArray, List.set_cons_zero, List.set_cons_succ]
  refine wpAny_end (by kernel_rfl) ?_ _
  refine NoPanic.normal ?_
  have c3z := SB.out.c3
  have DZ : Hid (DP (wt.setCell ⟨bp, 3, none⟩ (.pointer (some ⟨g, 0, none⟩))) g l k) := by
    have hh := (Below.heap_setCell wt ⟨bp, 3, none⟩ (.pointer (some ⟨g, 0, none⟩)) g (by have := ND.out.1; simp; omega)).trans DD.out
    exact ⟨(bcell hh 0).trans rfl, (bcell hh 1).trans rfl⟩
  go_wp2_with fail
  go_ret
  have hw := HW0.out
  subst hw
  exact ⟨g, rfl, DZ.out, SB.out, TT.out, ND.out.1, ND.out.2⟩
set_option maxHeartbeats 2000000 in
theorem doc_text (bp lb : Nat) (l : Bs) (k : Nat) (pc : Int) (dp : Nat) (s : ByteArray) (w : World) (h : B9 w bp lb l k pc (.pointer (some ⟨dp, 0, none⟩))) (g0 : w.cell? ⟨dp, 0, none⟩ = some (.string s)) (hs : s ≠ tx l) :
    Calls Tryd.prog 106 #[.pointer (some ⟨bp, 0, none⟩)] w (DocPost bp lb l k pc w) := by
  obtain ⟨W0, hW0⟩ : ∃ W0, W0 = w := ⟨_, rfl⟩
  have HB := Lib.hid h
  have HW0 := Lib.hid hW0
  have c2 := h.c2
  have c3 := h.c3
  have f3 := h.free 3
  have e1 := toList_neE hs
  clear hs
  clear h hW0
  go_enter Tryd.func106, Tryd.ntmps106
  go_wp2_with fail
  go_quiet ((go_at_call 62; exact Calls.quiet_of (text_any bp lb l k pc _ _ (HB.out.old (Old.drewN _ _)))))
  go_wp2_with fail
  have T0 : Hid (TDo W0 bp lb l k pc (.pointer (some ⟨dp, 0, none⟩)) (w.drewN nq).drew) := by
    have hw := HW0.out
    subst hw
    exact ⟨HB.out.old ((Old.drewN _ _).then_drew), (Old.drewN _ _).then_drew⟩
  refine wp_region_noPanic ?_
  refine wp_region_X (TDo W0 bp lb l k pc (.pointer (some ⟨dp, 0, none⟩))) (VDo bp l k) (WDo W0 l k) (fun j => decide (11 ≤ j)) (blkDo) 11 1 (fun i v w w' => WDo.old) (by kernel_rfl) T0.out rfl ?_
  refine wpX_take (i := 0) rfl (by kernel_rfl) (fun _ => .pointer (some ⟨bp, 0, none⟩)) (fun _ => ⟨rfl, fun b h => by cases h⟩) (by kernel_rfl) (by kernel_rfl) (by kernel_rfl) (by kernel_rfl) rfl ⟨by rfl, ?_⟩ ?_
  · (intro w hT; have h0 := hT.1.c2; go_simp; exact LandsX.value ⟨hT, rfl, trivial, Old.refl _, fun b h => by cases h⟩)
  intro v0 hv0 hf0
  obtain rfl : v0 = _ := hv0
  try simp only [Act.put, List.getElem_toArray, List.getElem_cons_succ, List.getElem_cons_zero, List.setIfInBounds_toArray, List.set_cons_zero, List.set_cons_succ]
  refine wpX_take (i := 1) rfl (by kernel_rfl) (fun _ => .pointer (some ⟨bp, 0, none⟩)) (fun _ => ⟨rfl, fun b h => by cases h⟩) (by kernel_rfl) (by kernel_rfl) (by kernel_rfl) (by kernel_rfl) rfl ⟨by rfl, ?_⟩ ?_
  · (intro w hT; have h0 := hT.1.c2; go_simp; exact LandsX.value ⟨hT, rfl, trivial, Old.refl _, fun b h => by cases h⟩)
  intro v1 hv1 hf1
  obtain rfl : v1 = _ := hv1
  try simp only [Act.put, List.getElem_toArray, List.getElem_cons_succ, List.getElem_cons_zero, List.setIfInBounds_toArray, List.set_cons_zero, List.set_cons_succ]
  refine wpX_take (i := 2) rfl (by kernel_rfl) (fun _ => .string (tx l)) (fun _ => ⟨rfl, fun b h => by cases h⟩) (by kernel_rfl) (by kernel_rfl) (by kernel_rfl) (by kernel_rfl) rfl ⟨by rfl, ?_⟩ ?_
  · (intro w hT; go_simp; exact LandsX.enter ((text_any bp lb l k pc _ _ hT.1).mono fun e w' h => by obtain ⟨he, n, rfl⟩ := h; exact ⟨_, he, hT.old (Old.drewN _ _), rfl, trivial, Old.drewN _ _, fun b h => by cases h⟩))
  intro v2 hv2 hf2
  obtain rfl : v2 = _ := hv2
  try simp only [Act.put, List.getElem_toArray, List.getElem_cons_succ, List.getElem_cons_zero, List.setIfInBounds_toArray, List.set_cons_zero, List.set_cons_succ]
  refine wpX_take (i := 3) rfl (by kernel_rfl) (fun _ => .pointer (some ⟨bp, 0, none⟩)) (fun _ => ⟨rfl, fun b h => by cases h⟩) (by kernel_rfl) (by kernel_rfl) (by kernel_rfl) (by kernel_rfl) rfl ⟨by rfl, ?_⟩ ?_
  · (intro w hT; have h0 := hT.1.c2; go_simp; exact LandsX.value ⟨hT, rfl, trivial, Old.refl _, fun b h => by cases h⟩)
  intro v3 hv3 hf3
  obtain rfl : v3 = _ := hv3
  try simp only [Act.put, List.getElem_toArray, List.getElem_cons_succ, List.getElem_cons_zero, List.setIfInBounds_toArray, List.set_cons_zero, List.set_cons_succ]
  refine wpX_take (i := 4) rfl (by kernel_rfl) (fun _ => .pointer (some ⟨bp, 0, none⟩)) (fun _ => ⟨rfl, fun b h => by cases h⟩) (by kernel_rfl) (by kernel_rfl) (by kernel_rfl) (by kernel_rfl) rfl ⟨by rfl, ?_⟩ ?_
  · (intro w hT; have h0 := hT.1.c2; go_simp; exact LandsX.value ⟨hT, rfl, trivial, Old.refl _, fun b h => by cases h⟩)
  intro v4 hv4 hf4
  obtain rfl : v4 = _ := hv4
  try simp only [Act.put, List.getElem_toArray, List.getElem_cons_succ, List.getElem_cons_zero, List.setIfInBounds_toArray, List.set_cons_zero, List.set_cons_succ]
  refine wpX_take (i := 5) rfl (by kernel_rfl) (fun _ => .pointer (some ⟨bp, 2, none⟩)) (fun _ => ⟨rfl, fun b h => by cases h⟩) (by kernel_rfl) (by kernel_rfl) (by kernel_rfl) (by kernel_rfl) rfl ⟨by rfl, ?_⟩ ?_
  · (intro w hT; have h0 := hT.1.c2; go_simp; exact LandsX.value ⟨hT, rfl, trivial, Old.refl _, fun b h => by cases h⟩)
  intro v5 hv5 hf5
  obtain rfl : v5 = _ := hv5
  try simp only [Act.put, List.getElem_toArray, List.getElem_cons_succ, List.getElem_cons_zero, List.setIfInBounds_toArray, List.set_cons_zero, List.set_cons_succ]
  refine wpX_take (i := 6) rfl (by kernel_rfl) (fun _ => .int .i64 k) (fun _ => ⟨rfl, fun b h => by cases h⟩) (by kernel_rfl) (by kernel_rfl) (by kernel_rfl) (by kernel_rfl) rfl ⟨by rfl, ?_⟩ ?_
  · (intro w hT; have h0 := hT.1.c2; go_simp; exact LandsX.value ⟨hT, rfl, trivial, Old.refl _, fun b h => by cases h⟩)
  intro v6 hv6 hf6
  obtain rfl : v6 = _ := hv6
  try simp only [Act.put, List.getElem_toArray, List.getElem_cons_succ, List.getElem_cons_zero, List.setIfInBounds_toArray, List.set_cons_zero, List.set_cons_succ]
  refine wpX_take (i := 7) rfl (by kernel_rfl) (fun _ => .agg #[.string (tx l), .int .i64 k]) (fun _ => ⟨rfl, fun b h => by cases h⟩) (by kernel_rfl) (by kernel_rfl) (by kernel_rfl) (by kernel_rfl) rfl ⟨by rfl, ?_⟩ ?_
  · (intro w hT; have h0 := hT.1.c2; go_simp; exact LandsX.value ⟨hT, rfl, trivial, Old.refl _, fun b h => by cases h⟩)
  intro v7 hv7 hf7
  obtain rfl : v7 = _ := hv7
  try simp only [Act.put, List.getElem_toArray, List.getElem_cons_succ, List.getElem_cons_zero, List.setIfInBounds_toArray, List.set_cons_zero, List.set_cons_succ]
  refine wpX_take (i := 8) rfl (by kernel_rfl) (fun bl => .pointer (some ⟨bl.foldr max 0 + 1, 0, none⟩)) (fun bl => ⟨⟨_, rfl⟩, fun b h => by obtain rfl := Option.some.inj h; exact fresh_maxE bl⟩) (by kernel_rfl) (by kernel_rfl) (by kernel_rfl) (by kernel_rfl) rfl ⟨by rfl, ?_⟩ ?_
  · (intro w hT; go_simp; exact lands_boxE (P := Tryd.prog) W0 bp lb l k pc (.pointer (some ⟨dp, 0, none⟩)) hT)
  intro v8 hv8 hf8
  obtain ⟨g, rfl⟩ := hv8
  try simp only [Act.put, List.getElem_toArray, List.getElem_cons_succ, List.getElem_cons_zero, List.setIfInBounds_toArray, List.set_cons_zero, List.set_cons_succ]
  refine wpX_take (i := 9) rfl (by kernel_rfl) (fun _ => .pointer (some ⟨bp, 0, none⟩)) (fun _ => ⟨rfl, fun b h => by cases h⟩) (by kernel_rfl) (by kernel_rfl) (by kernel_rfl) (by kernel_rfl) rfl ⟨by rfl, ?_⟩ ?_
  · (intro w hT; have h0 := hT.1.c2; go_simp; exact LandsX.value ⟨hT, rfl, trivial, Old.refl _, fun b h => by cases h⟩)
  intro v9 hv9 hf9
  obtain rfl : v9 = _ := hv9
  try simp only [Act.put, List.getElem_toArray, List.getElem_cons_succ, List.getElem_cons_zero, List.setIfInBounds_toArray, List.set_cons_zero, List.set_cons_succ]
  refine wpX_take (i := 10) rfl (by kernel_rfl) (fun _ => .pointer (some ⟨bp, 3, none⟩)) (fun _ => ⟨rfl, fun b h => by cases h⟩) (by kernel_rfl) (by kernel_rfl) (by kernel_rfl) (by kernel_rfl) rfl ⟨by rfl, ?_⟩ ?_
  · (intro w hT; have h0 := hT.1.c2; go_simp; exact LandsX.value ⟨hT, rfl, trivial, Old.refl _, fun b h => by cases h⟩)
  intro v10 hv10 hf10
  obtain rfl : v10 = _ := hv10
  try simp only [Act.put, List.getElem_toArray, List.getElem_cons_succ, List.getElem_cons_zero, List.setIfInBounds_toArray, List.set_cons_zero, List.set_cons_succ]
  refine wpX_tail (by kernel_rfl) ?_
  intro wt hT hG
  have hg := hG.1.1.2 g rfl
  have hB := hT.1
  have hne : g ≠ bp ∧ g ≠ lb := by
    have h1 := HB.out.lt
    have h2 := hg.1
    have h3 := HW0.out
    subst h3
    omega
  have c3t := hB.c3
  have f3t := hB.free 3
  have d0 : wt.cell? ⟨g, 0, none⟩ = some (.string (tx l)) := (bcell hg.2 0).trans rfl
  have d1 : wt.cell? ⟨g, 1, none⟩ = some (.int .i64 k) := (bcell hg.2 1).trans rfl
  have SB := Lib.hid (hB.setD (.pointer (some ⟨g, 0, none⟩)) (.inr ⟨g, _, _, rfl, hne.1, hne.2, hg.2⟩))
  have TT := Lib.hid ((Two.of_old (p := bp) (q := lb) hT.2).stored bp 3 (.pointer (some ⟨g, 0, none⟩)) (Or.inl rfl))
  have ND := Lib.hid hne
  have DD := Lib.hid hg.2
  clear hg hB hne d0 d1 hT hG hf0 hf1 hf2 hf3 hf4 hf5 hf6 hf7 hf8 hf9 hf10
  refine wpAny_one (i := 11) (by kernel_rfl) rfl (fun K hK => ?_)
  go_simp
  refine hK.out _ _ ?_
  clear hK K
  try simp only [Act.put, List.getElem_toArray, List.getElem_cons_succ, List.getElem_cons_zero, List.setIfInBounds_toArray, List.set_cons_zero, List.set_cons_succ]
  refine wpAny_end (by kernel_rfl) ?_ _
  refine NoPanic.normal ?_
  have c3z := SB.out.c3
  have DZ : Hid (DP (wt.setCell ⟨bp, 3, none⟩ (.pointer (some ⟨g, 0, none⟩))) g l k) := by
    have hh := (Below.heap_setCell wt ⟨bp, 3, none⟩ (.pointer (some ⟨g, 0, none⟩)) g (by have := ND.out.1; simp; omega)).trans DD.out
    exact ⟨(bcell hh 0).trans rfl, (bcell hh 1).trans rfl⟩
  go_wp2_with fail
  go_ret
  have hw := HW0.out
  subst hw
  exact ⟨g, rfl, DZ.out, SB.out, TT.out, ND.out.1, ND.out.2⟩
set_option maxHeartbeats 2000000 in
theorem doc_cur (bp lb : Nat) (l : Bs) (k : Nat) (pc : Int) (dp : Nat) (c : Int) (w : World) (h : B9 w bp lb l k pc (.pointer (some ⟨dp, 0, none⟩))) (g0 : w.cell? ⟨dp, 0, none⟩ = some (.string (tx l))) (g1 : w.cell? ⟨dp, 1, none⟩ = some (.int .i64 c)) (hs : c ≠ (k : Int)) :
    Calls Tryd.prog 106 #[.pointer (some ⟨bp, 0, none⟩)] w (DocPost bp lb l k pc w) := by
  obtain ⟨W0, hW0⟩ : ∃ W0, W0 = w := ⟨_, rfl⟩
  have HB := Lib.hid h
  have HW0 := Lib.hid hW0
  have c2 := h.c2
  have c3 := h.c3
  have f3 := h.free 3
  have e1 : (c != (k : Int)) = true := by simpa using hs
  clear hs
  clear h hW0
  go_enter Tryd.func106, Tryd.ntmps106
  go_wp2_with fail
  go_quiet ((go_at_call 62; exact Calls.quiet_of (text_any bp lb l k pc _ _ (HB.out.old (Old.drewN _ _)))))
  go_wp2_with fail
  have T0 : Hid (TDo W0 bp lb l k pc (.pointer (some ⟨dp, 0, none⟩)) (w.drewN nq).drew) := by
    have hw := HW0.out
    subst hw
    exact ⟨HB.out.old ((Old.drewN _ _).then_drew), (Old.drewN _ _).then_drew⟩
  refine wp_region_noPanic ?_
  refine wp_region_X (TDo W0 bp lb l k pc (.pointer (some ⟨dp, 0, none⟩))) (VDo bp l k) (WDo W0 l k) (fun j => decide (11 ≤ j)) (blkDo) 11 1 (fun i v w w' => WDo.old) (by kernel_rfl) T0.out rfl ?_
  refine wpX_take (i := 0) rfl (by kernel_rfl) (fun _ => .pointer (some ⟨bp, 0, none⟩)) (fun _ => ⟨rfl, fun b h => by cases h⟩) (by kernel_rfl) (by kernel_rfl) (by kernel_rfl) (by kernel_rfl) rfl ⟨by rfl, ?_⟩ ?_
  · (intro w hT; have h0 := hT.1.c2; go_simp; exact LandsX.value ⟨hT, rfl, trivial, Old.refl _, fun b h => by cases h⟩)
  intro v0 hv0 hf0
  obtain rfl : v0 = _ := hv0
  try simp only [Act.put, List.getElem_toArray, List.getElem_cons_succ, List.getElem_cons_zero, List.setIfInBounds_toArray, List.set_cons_zero, List.set_cons_succ]
  refine wpX_take (i := 1) rfl (by kernel_rfl) (fun _ => .pointer (some ⟨bp, 0, none⟩)) (fun _ => ⟨rfl, fun b h => by cases h⟩) (by kernel_rfl) (by kernel_rfl) (by kernel_rfl) (by kernel_rfl) rfl ⟨by rfl, ?_⟩ ?_
  · (intro w hT; have h0 := hT.1.c2; go_simp; exact LandsX.value ⟨hT, rfl, trivial, Old.refl _, fun b h => by cases h⟩)
  intro v1 hv1 hf1
  obtain rfl : v1 = _ := hv1
  try simp only [Act.put, List.getElem_toArray, List.getElem_cons_succ, List.getElem_cons_zero, List.setIfInBounds_toArray, List.set_cons_zero, List.set_cons_succ]
  refine wpX_take (i := 2) rfl (by kernel_rfl) (fun _ => .string (tx l)) (fun _ => ⟨rfl, fun b h => by cases h⟩) (by kernel_rfl) (by kernel_rfl) (by kernel_rfl) (by kernel_rfl) rfl ⟨by rfl, ?_⟩ ?_
  · (intro w hT; go_simp; exact LandsX.enter ((text_any bp lb l k pc _ _ hT.1).mono fun e w' h => by obtain ⟨he, n, rfl⟩ := h; exact ⟨_, he, hT.old (Old.drewN _ _), rfl, trivial, Old.drewN _ _, fun b h => by cases h⟩))
  intro v2 hv2 hf2
  obtain rfl : v2 = _ := hv2
  try simp only [Act.put, List.getElem_toArray, List.getElem_cons_succ, List.getElem_cons_zero, List.setIfInBounds_toArray, List.set_cons_zero, List.set_cons_succ]
  refine wpX_take (i := 3) rfl (by kernel_rfl) (fun _ => .pointer (some ⟨bp, 0, none⟩)) (fun _ => ⟨rfl, fun b h => by cases h⟩) (by kernel_rfl) (by kernel_rfl) (by kernel_rfl) (by kernel_rfl) rfl ⟨by rfl, ?_⟩ ?_
  · (intro w hT; have h0 := hT.1.c2; go_simp; exact LandsX.value ⟨hT, rfl, trivial, Old.refl _, fun b h => by cases h⟩)
  intro v3 hv3 hf3
  obtain rfl : v3 = _ := hv3
  try simp only [Act.put, List.getElem_toArray, List.getElem_cons_succ, List.getElem_cons_zero, List.setIfInBounds_toArray, List.set_cons_zero, List.set_cons_succ]
  refine wpX_take (i := 4) rfl (by kernel_rfl) (fun _ => .pointer (some ⟨bp, 0, none⟩)) (fun _ => ⟨rfl, fun b h => by cases h⟩) (by kernel_rfl) (by kernel_rfl) (by kernel_rfl) (by kernel_rfl) rfl ⟨by rfl, ?_⟩ ?_
  · (intro w hT; have h0 := hT.1.c2; go_simp; exact LandsX.value ⟨hT, rfl, trivial, Old.refl _, fun b h => by cases h⟩)
  intro v4 hv4 hf4
  obtain rfl : v4 = _ := hv4
  try simp only [Act.put, List.getElem_toArray, List.getElem_cons_succ, List.getElem_cons_zero, List.setIfInBounds_toArray, List.set_cons_zero, List.set_cons_succ]
  refine wpX_take (i := 5) rfl (by kernel_rfl) (fun _ => .pointer (some ⟨bp, 2, none⟩)) (fun _ => ⟨rfl, fun b h => by cases h⟩) (by kernel_rfl) (by kernel_rfl) (by kernel_rfl) (by kernel_rfl) rfl ⟨by rfl, ?_⟩ ?_
  · (intro w hT; have h0 := hT.1.c2; go_simp; exact LandsX.value ⟨hT, rfl, trivial, Old.refl _, fun b h => by cases h⟩)
  intro v5 hv5 hf5
  obtain rfl : v5 = _ := hv5
  try simp only [Act.put, List.getElem_toArray, List.getElem_cons_succ, List.getElem_cons_zero, List.setIfInBounds_toArray, List.set_cons_zero, List.set_cons_succ]
  refine wpX_take (i := 6) rfl (by kernel_rfl) (fun _ => .int .i64 k) (fun _ => ⟨rfl, fun b h => by cases h⟩) (by kernel_rfl) (by kernel_rfl) (by kernel_rfl) (by kernel_rfl) rfl ⟨by rfl, ?_⟩ ?_
  · (intro w hT; have h0 := hT.1.c2; go_simp; exact LandsX.value ⟨hT, rfl, trivial, Old.refl _, fun b h => by cases h⟩)
  intro v6 hv6 hf6
  obtain rfl : v6 = _ := hv6
  try simp only [Act.put, List.getElem_toArray, List.getElem_cons_succ, List.getElem_cons_zero, List.setIfInBounds_toArray, List.set_cons_zero, List.set_cons_succ]
  refine wpX_take (i := 7) rfl (by kernel_rfl) (fun _ => .agg #[.string (tx l), .int .i64 k]) (fun _ => ⟨rfl, fun b h => by cases h⟩) (by kernel_rfl) (by kernel_rfl) (by kernel_rfl) (by kernel_rfl) rfl ⟨by rfl, ?_⟩ ?_
  · (intro w hT; have h0 := hT.1.c2; go_simp; exact LandsX.value ⟨hT, rfl, trivial, Old.refl _, fun b h => by cases h⟩)
  intro v7 hv7 hf7
  obtain rfl : v7 = _ := hv7
  try simp only [Act.put, List.getElem_toArray, List.getElem_cons_succ, List.getElem_cons_zero, List.setIfInBounds_toArray, List.set_cons_zero, List.set_cons_succ]
  refine wpX_take (i := 8) rfl (by kernel_rfl) (fun bl => .pointer (some ⟨bl.foldr max 0 + 1, 0, none⟩)) (fun bl => ⟨⟨_, rfl⟩, fun b h => by obtain rfl := Option.some.inj h; exact fresh_maxE bl⟩) (by kernel_rfl) (by kernel_rfl) (by kernel_rfl) (by kernel_rfl) rfl ⟨by rfl, ?_⟩ ?_
  · (intro w hT; go_simp; exact lands_boxE (P := Tryd.prog) W0 bp lb l k pc (.pointer (some ⟨dp, 0, none⟩)) hT)
  intro v8 hv8 hf8
  obtain ⟨g, rfl⟩ := hv8
  try simp only [Act.put, List.getElem_toArray, List.getElem_cons_succ, List.getElem_cons_zero, List.setIfInBounds_toArray, List.set_cons_zero, List.set_cons_succ]
  refine wpX_take (i := 9) rfl (by kernel_rfl) (fun _ => .pointer (some ⟨bp, 0, none⟩)) (fun _ => ⟨rfl, fun b h => by cases h⟩) (by kernel_rfl) (by kernel_rfl) (by kernel_rfl) (by kernel_rfl) rfl ⟨by rfl, ?_⟩ ?_
  · (intro w hT; have h0 := hT.1.c2; go_simp; exact LandsX.value ⟨hT, rfl, trivial, Old.refl _, fun b h => by cases h⟩)
  intro v9 hv9 hf9
  obtain rfl : v9 = _ := hv9
  try simp only [Act.put, List.getElem_toArray, List.getElem_cons_succ, List.getElem_cons_zero, List.setIfInBounds_toArray, List.set_cons_zero, List.set_cons_succ]
  refine wpX_take (i := 10) rfl (by kernel_rfl) (fun _ => .pointer (some ⟨bp, 3, none⟩)) (fun _ => ⟨rfl, fun b h => by cases h⟩) (by kernel_rfl) (by kernel_rfl) (by kernel_rfl) (by kernel_rfl) rfl ⟨by rfl, ?_⟩ ?_
  · (intro w hT; have h0 := hT.1.c2; go_simp; exact LandsX.value ⟨hT, rfl, trivial, Old.refl _, fun b h => by cases h⟩)
  intro v10 hv10 hf10
  obtain rfl : v10 = _ := hv10
  try simp only [Act.put, List.getElem_toArray, List.getElem_cons_succ, List.getElem_cons_zero, List.setIfInBounds_toArray, List.set_cons_zero, List.set_cons_succ]
  refine wpX_tail (by kernel_rfl) ?_
  intro wt hT hG
  have hg := hG.1.1.2 g rfl
  have hB := hT.1
  have hne : g ≠ bp ∧ g ≠ lb := by
    have h1 := HB.out.lt
    have h2 := hg.1
    have h3 := HW0.out
    subst h3
    omega
  have c3t := hB.c3
  have f3t := hB.free 3
  have d0 : wt.cell? ⟨g, 0, none⟩ = some (.string (tx l)) := (bcell hg.2 0).trans rfl
  have d1 : wt.cell? ⟨g, 1, none⟩ = some (.int .i64 k) := (bcell hg.2 1).trans rfl
  have SB := Lib.hid (hB.setD (.pointer (some ⟨g, 0, none⟩)) (.inr ⟨g, _, _, rfl, hne.1, hne.2, hg.2⟩))
  have TT := Lib.hid ((Two.of_old (p := bp) (q := lb) hT.2).stored bp 3 (.pointer (some ⟨g, 0, none⟩)) (Or.inl rfl))
  have ND := Lib.hid hne
  have DD := Lib.hid hg.2
  clear hg hB hne d0 d1 hT hG hf0 hf1 hf2 hf3 hf4 hf5 hf6 hf7 hf8 hf9 hf10
  refine wpAny_one (i := 11) (by kernel_rfl) rfl (fun K hK => ?_)
  go_simp
  refine hK.out _ _ ?_
  clear hK K
  try simp only [Act.put, List.getElem_toArray, List.getElem_cons_succ, List.getElem_cons_zero, List.setIfInBounds_toArray, List.set_cons_zero, List.set_cons_succ]
  refine wpAny_end (by kernel_rfl) ?_ _
  refine NoPanic.normal ?_
  have c3z := SB.out.c3
  have DZ : Hid (DP (wt.setCell ⟨bp, 3, none⟩ (.pointer (some ⟨g, 0, none⟩))) g l k) := by
    have hh := (Below.heap_setCell wt ⟨bp, 3, none⟩ (.pointer (some ⟨g, 0, none⟩)) g (by have := ND.out.1; simp; omega)).trans DD.out
    exact ⟨(bcell hh 0).trans rfl, (bcell hh 1).trans rfl⟩
  go_wp2_with fail
  go_ret
  have hw := HW0.out
  subst hw
  exact ⟨g, rfl, DZ.out, SB.out, TT.out, ND.out.1, ND.out.2⟩
theorem doc_same (bp lb : Nat) (l : Bs) (k : Nat) (pc : Int) (dp : Nat) (w : World) (h : B9 w bp lb l k pc (.pointer (some ⟨dp, 0, none⟩))) (g0 : w.cell? ⟨dp, 0, none⟩ = some (.string (tx l))) (g1 : w.cell? ⟨dp, 1, none⟩ = some (.int .i64 k)) (n1 : dp ≠ bp) (n2 : dp ≠ lb) :
    Calls Tryd.prog 106 #[.pointer (some ⟨bp, 0, none⟩)] w (DocPost bp lb l k pc w) := by
  have HB := Lib.hid h
  have c2 := h.c2
  have c3 := h.c3
  clear h
  have N1 := Lib.hid n1
  have N2 := Lib.hid n2
  have D := Lib.hid (DP.mk g0 g1)
  clear n1 n2
  go_enter Tryd.func106, Tryd.ntmps106
  go_wp2_with fail
  go_quiet ((go_at_call 62; exact Calls.quiet_of (text_any bp lb l k pc _ _ (HB.out.old (Old.drewN _ _)))))
  go_wp2_with fail
  go_ret
  exact ⟨dp, rfl, D.out.old (Old.drewN _ _), HB.out.old (Old.drewN _ _), Two.of_old (Old.drewN _ _), N1.out, N2.out⟩
theorem doc_any (bp lb : Nat) (l : Bs) (k : Nat) (pc : Int) (dv : Value) (w : World) (h : B9 w bp lb l k pc dv) :
    Calls Tryd.prog 106 #[.pointer (some ⟨bp, 0, none⟩)] w (DocPost bp lb l k pc w) := by
  rcases h.cd with rfl | ⟨dp, s, c, rfl, n1, n2, hh⟩
  · exact doc_new bp lb l k pc w h
  · have g0 : w.cell? ⟨dp, 0, none⟩ = some (.string s) := (bcell hh 0).trans rfl
    have g1 : w.cell? ⟨dp, 1, none⟩ = some (.int .i64 c) := (bcell hh 1).trans rfl
    by_cases hs : s = tx l
    · subst hs
      by_cases hc : c = (k : Int)
      · subst hc
        exact doc_same bp lb l k pc dp w h g0 g1 n1 n2
      · exact doc_cur bp lb l k pc dp c w h g0 g1 hc
    · exact doc_text bp lb l k pc dp s w h g0 hs
end Go.Proofs.YtleamondilmojaaDoor
