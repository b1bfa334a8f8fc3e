/- FnAround: what stands around a cursor is what the reference tells. -/
import Derived.Test.YtbkdppfjmfepiaaAround9
import Derived.Test.YtbkdppfjmfepiaaAnyX
import Derived.Test.YtbkdppfjmfepiaaSame7
import Derived.Test.YtbkdppfjmfepiaaStepA
import Derived.Deep.Cut
import Derived.Deep.RegionHeld3
namespace Go.Proofs.Ytbkdppfjmfepiaa
open Go.RowKit
set_option linter.unusedVariables false
set_option linter.unusedSimpArgs false
set_option linter.unnecessarySimpa false
set_option maxRecDepth 100000

/-- Within the two calls: the document stays, what is told is kept. -/
def TD (l : Bs) (k d : Nat) (W0 : World) (w : World) : Prop := w.cell? ⟨d, 0, none⟩ = some (.string (tx l)) ∧ w.cell? ⟨d, 1, none⟩ = some (.int .i64 k) ∧ Old W0 w
def VD (l : Bs) (k : Nat) (i : Nat) (v : Value) : Prop := match i with
  | 0 => v = .agg #[.string (tx l), .int .i64 k]
  | 2 => v = .agg #[.string (tx l), .int .i64 k]
  | 1 => ∃ b c, v = aroundV l k (.slice (some ⟨b, 0, none⟩) (splitL l).length c)
  | 3 => ∃ b c, v = aroundV l k (.slice (some ⟨b, 0, none⟩) (splitL l).length c)
  | _ => ∃ g, v = .pointer (some ⟨g, 0, none⟩)
def WD (l : Bs) (k : Nat) (W0 : World) (i : Nat) (v : Value) (w : World) : Prop := match i with
  | 0 => True
  | 2 => True
  | 1 => ∀ lv, v = aroundV l k lv → w.ownsRow W0.heap.size 9 1 lv (splitL l).length (lineVs (splitL l))
  | 3 => ∀ lv, v = aroundV l k lv → w.ownsRow W0.heap.size 9 1 lv (splitL l).length (lineVs (splitL l))
  | _ => ∀ g, v = .pointer (some ⟨g, 0, none⟩) → W0.heap.size ≤ g ∧ w.heap[g]? = some (.cells #[.string ⟨#[]⟩, .string ⟨#[]⟩, .string ⟨#[]⟩, .string ⟨#[]⟩, .string ⟨#[]⟩, .int .i64 0, .int .i64 0, .slice none 0 0, .bool false, .int .i64 0, .string ⟨#[]⟩, .string ⟨#[]⟩, .string ⟨#[]⟩, .string ⟨#[]⟩] 56 (0, 0))
def blkD (i : Nat) (v : Value) : Option Nat := match i, v with
  | 4, .pointer (some a) => some a.block
  | 5, .pointer (some a) => some a.block
  | _, _ => none
theorem aroundV_lv {l : Bs} {k : Nat} {a b : Value} (h : aroundV l k a = aroundV l k b) : a = b := by
  unfold aroundV aroundC at h
  injection h with h
  have := congrArg (fun z => z[7]?) h
  simpa using this
theorem WD.old {l : Bs} {k i : Nat} {W0 w w' : World} {v : Value} (h : WD l k W0 i v w) (o : Old w w') : WD l k W0 i v w' := by
  unfold WD at *
  split at h
  · trivial
  · trivial
  · exact fun lv e => own_old (h lv e) o
  · exact fun lv e => own_old (h lv e) o
  · exact fun g e => ⟨(h g e).1, (o.heap (World.lt_of_heap (h g e).2)).trans (h g e).2⟩
theorem TD.old {l : Bs} {k d : Nat} {W0 w w' : World} (h : TD l k d W0 w) (o : Old w w') : TD l k d W0 w' :=
  ⟨(o.cell (World.block_lt_of_cell? w _ h.1)).trans h.1, (o.cell (World.block_lt_of_cell? w _ h.1)).trans h.2.1, h.2.2.trans o⟩
theorem lands_around (l : Bs) (k d : Nat) (W0 : World) {w w' : World} {e : Ending} {lv : Value} (hT : TD l k d W0 w) (he : e = .returned (aroundV l k lv)) (o : Old w w') (r : w'.ownsRow w.heap.size 9 1 lv (splitL l).length (lineVs (splitL l))) :
    ∃ v, e = .returned v ∧ TD l k d W0 w' ∧ (∃ b c, v = aroundV l k (.slice (some ⟨b, 0, none⟩) (splitL l).length c)) ∧ (∀ lv, v = aroundV l k lv → w'.ownsRow W0.heap.size 9 1 lv (splitL l).length (lineVs (splitL l))) ∧ Old w w' ∧ ∀ b, none = some b → w.heap.size ≤ b ∧ b < w'.heap.size := by
  obtain ⟨b, c, rfl, _⟩ := lineVs_at r (splitL_pos l)
  refine ⟨_, he, hT.old o, ⟨b, c, rfl⟩, fun lv e => ?_, o, fun b h => by cases h⟩
  rw [← aroundV_lv e]
  exact own_down r hT.2.2.size
theorem lands_alloc (l : Bs) (k d : Nat) (W0 : World) {w : World} (hT : TD l k d W0 w) {P : Program} : LandsX P (fun v w' => TD l k d W0 w' ∧ (∃ g, v = .pointer (some ⟨g, 0, none⟩)) ∧ (∀ g, v = .pointer (some ⟨g, 0, none⟩) → W0.heap.size ≤ g ∧ w'.heap[g]? = some (.cells #[.string ⟨#[]⟩, .string ⟨#[]⟩, .string ⟨#[]⟩, .string ⟨#[]⟩, .string ⟨#[]⟩, .int .i64 0, .int .i64 0, .slice none 0 0, .bool false, .int .i64 0, .string ⟨#[]⟩, .string ⟨#[]⟩, .string ⟨#[]⟩, .string ⟨#[]⟩] 56 (0, 0))) ∧ Old w w' ∧ ∀ b, (match v with | .pointer (some a) => some a.block | _ => none) = some b → w.heap.size ≤ b ∧ b < w'.heap.size)
    (.ok (.value (.pointer (some ⟨w.heap.size, 0, none⟩))) (w.alloc (.cells #[.string ⟨#[]⟩, .string ⟨#[]⟩, .string ⟨#[]⟩, .string ⟨#[]⟩, .string ⟨#[]⟩, .int .i64 0, .int .i64 0, .slice none 0 0, .bool false, .int .i64 0, .string ⟨#[]⟩, .string ⟨#[]⟩, .string ⟨#[]⟩, .string ⟨#[]⟩] 56 (0, 0)))) := by
  refine LandsX.value ⟨hT.old (Old.alloc _ _), ⟨_, rfl⟩, fun g e => ?_, Old.alloc _ _, fun b h => ?_⟩
  · injection e with e; injection e with e; injection e with e
    subst e
    exact ⟨hT.2.2.size, heap_alloc_new w _⟩
  · obtain rfl := Option.some.inj h
    exact ⟨Nat.le_refl _, by simp⟩

theorem own_ne_heap {w : World} {base n n' c : Nat} {e t : TypeId} {xs : List Value} {b g : Nat} {C : Array Value} (h : w.ownsRow base e 1 (.slice (some ⟨b, 0, none⟩) n c) n' xs) (hg : w.heap[g]? = some (.cells C t (0, 0))) (ht : t ≠ e) : b ≠ g := by
  rintro rfl
  rcases h.2 with ⟨h1, _⟩ | ⟨q, cap, cur, e1, _, e2, _⟩
  · cases h1
  · have e3 : q = b := by injection e1 with e1; injection e1 with e1; injection e1 with e1; exact e1.symm
    rw [e3, hg] at e2
    injection e2 with e2
    injection e2 with _ e4 _
    exact ht e4
theorem own_setRow {w : World} {base n n' c b g : Nat} {e : TypeId} {xs : List Value} (h : w.ownsRow base e 1 (.slice (some ⟨b, 0, none⟩) n c) n' xs) (C : Array Value) (hne : b ≠ g) : (w.setRow g C).ownsRow base e 1 (.slice (some ⟨b, 0, none⟩) n c) n' xs :=
  own_keep h fun q hq _ => by
    obtain rfl : b = q := by simpa [Value.ownBlock] using hq
    exact setRow_other _ _ _ _ hne
theorem lineVs_strs (L : List Bs) : lineVs L = (L.map tx).map Value.string := by simp [lineVs]

set_option maxHeartbeats 8000000 in
theorem lawAround_any (s : ByteArray) (z : Int) (w : World) (hs : s.size ≤ 9223372036854775807) (hz : (Lit.int .i64 z).wf = true) :
    Calls Try.prog 9 #[.agg #[.string s, .int .i64 z]] w fun e w' => e = .returned (.bool true) ∧ Below w.heap.size w w' := by
  have C0 : Hid (∀ w0 w', w0 = w.alloc (.cells #[.string s, .int .i64 z] 47) → Old w0 w' → w'.cell? ⟨w.heap.size, 0, none⟩ = some (.string s) ∧ w'.cell? ⟨w.heap.size, 1, none⟩ = some (.int .i64 z)) := fun w0 w' e o => by
    subst e
    have c0 := (World.cell?_alloc_mark w #[.string s, .int .i64 z] 47 (0, 0) 0).trans rfl
    have c1 := (World.cell?_alloc_mark w #[.string s, .int .i64 z] 47 (0, 0) 1).trans rfl
    have hlt := World.block_lt_of_cell? _ _ c0
    exact ⟨(o.cell hlt).trans c0, (o.cell hlt).trans c1⟩
  have O0 := Lib.hid (Old.alloc w (.cells #[.string s, .int .i64 z] 47))
  go_enter Try.func9, Try.ntmps9
  go_upto_region 1 with fail
  generalize hW : w.alloc (.cells #[.string s, .int .i64 z] 47) = Wd at O0 ⊢
  obtain ⟨d, hd⟩ : ∃ d, d = w.heap.size := ⟨_, rfl⟩
  rw [← hd]
  have DC : Hid (∀ w', Old Wd w' → w'.cell? ⟨d, 0, none⟩ = some (.string s) ∧ w'.cell? ⟨d, 1, none⟩ = some (.int .i64 z)) := fun w' o => by
    rw [hd]; exact C0.out _ w' hW.symm o
  clear hW hd C0
  obtain ⟨x0, x1⟩ := DC.out Wd (Old.refl _)
  by_cases h1 : s.size ≤ 2147483647
  · have d1 : Hid (decide (s.size ≤ 2147483647) = true) := by unfold Hid; simpa using h1
    cases h2 : drB s z with
    | false =>
      have H2 := Lib.hid h2
      clear h2
      go_wp2_with (first
        | (go_at_call 22; refine (fits_any s z _ (by omega)).mono ?_; rw [d1.out]; rintro e w1 ⟨rfl, o1⟩; have O1 := Lib.hid (O0.out.trans o1); have D1 := DC.out _ o1; obtain ⟨y0, y1⟩ := D1; clear o1)
        | (go_at_call 23; refine (right_any s z _ (by omega)).mono ?_; rw [H2.out]; rintro e w2 ⟨rfl, o2⟩; have O2 := Lib.hid (O1.out.trans o2); clear o2))
      go_ret
      exact ⟨rfl, O2.out⟩
    | true =>
      have H2 := Lib.hid h2
      obtain ⟨l, rfl⟩ : ∃ l, s = tx l := ⟨bs s, (tx_bs s).symm⟩
      obtain ⟨k, rfl, hk, ok, hl⟩ := dr_ok h2
      have OK := Lib.hid ok
      clear h2 ok
      go_upto_region 5 with (first
        | (go_at_call 22; refine (fits_any (tx l) k _ (by omega)).mono ?_; rw [d1.out]; rintro e w1 ⟨rfl, o1⟩; have P1 := Lib.hid o1; have D1 := DC.out _ o1; obtain ⟨y0, y1⟩ := D1; clear o1)
        | (go_at_call 23; refine (right_any (tx l) k _ (by omega)).mono ?_; rw [H2.out]; rintro e w2 ⟨rfl, o2⟩; have P2 := Lib.hid (P1.out.trans o2); clear o2))
      obtain ⟨W0, hW0⟩ : ∃ W0, W0 = w2 := ⟨_, rfl⟩
      have TD0 : Hid (TD l k d W0 w2.drew) := by
        obtain ⟨y0, y1⟩ := DC.out _ P2.out
        exact ⟨y0, y1, by rw [hW0]; exact Old.drew _⟩
      have HW0 := Lib.hid hW0
      clear hW0
      refine wp_region_noPanic ?_
      refine wp_region_X (TD l k d W0) (VD l k) (WD l k W0) (fun j => decide (6 ≤ j)) (blkD) 6 2 (fun i v w w' => WD.old) (by kernel_rfl) TD0.out rfl ?_
      refine wpX_take (i := 0) rfl (by kernel_rfl) (fun _ => .agg #[.string (tx l), .int .i64 k]) (fun _ => ⟨rfl, fun b h => by cases h⟩) (by kernel_rfl) (by kernel_rfl) (by kernel_rfl) (by kernel_rfl) rfl ⟨by rfl, ?_⟩ ?_
      · (intro w hT; have h0 := hT.1; have h1 := hT.2.1; go_simp; exact LandsX.value ⟨hT, rfl, trivial, Old.refl _, fun b h => by cases h⟩)
      intro v0 hv0 hf0
      obtain rfl : v0 = _ := hv0
      try simp only [Act.put, List.getElem_toArray, List.getElem_cons_succ, List.getElem_cons_zero, List.setIfInBounds_toArray, List.set_cons_zero, List.set_cons_succ]
      refine wpX_take (i := 1) rfl (by kernel_rfl) (fun _ => aroundV l k (.slice (some ⟨0, 0, none⟩) (splitL l).length 0)) (fun _ => ⟨⟨0, 0, rfl⟩, fun b h => by cases h⟩) (by kernel_rfl) (by kernel_rfl) (by kernel_rfl) (by kernel_rfl) rfl ⟨by rfl, ?_⟩ ?_
      · (intro w hT; go_simp; exact LandsX.enter ((around_any l k _ hk OK.out).mono fun e w' h => by obtain ⟨lv, he, o, r⟩ := h; exact lands_around l k d W0 hT he o r))
      intro v1 hv1 hf1
      obtain ⟨b1, c1, rfl⟩ := hv1
      try simp only [Act.put, List.getElem_toArray, List.getElem_cons_succ, List.getElem_cons_zero, List.setIfInBounds_toArray, List.set_cons_zero, List.set_cons_succ]
      refine wpX_take (i := 2) rfl (by kernel_rfl) (fun _ => .agg #[.string (tx l), .int .i64 k]) (fun _ => ⟨rfl, fun b h => by cases h⟩) (by kernel_rfl) (by kernel_rfl) (by kernel_rfl) (by kernel_rfl) rfl ⟨by rfl, ?_⟩ ?_
      · (intro w hT; have h0 := hT.1; have h1 := hT.2.1; go_simp; exact LandsX.value ⟨hT, rfl, trivial, Old.refl _, fun b h => by cases h⟩)
      intro v2 hv2 hf2
      obtain rfl : v2 = _ := hv2
      try simp only [Act.put, List.getElem_toArray, List.getElem_cons_succ, List.getElem_cons_zero, List.setIfInBounds_toArray, List.set_cons_zero, List.set_cons_succ]
      refine wpX_take (i := 3) rfl (by kernel_rfl) (fun _ => aroundV l k (.slice (some ⟨0, 0, none⟩) (splitL l).length 0)) (fun _ => ⟨⟨0, 0, rfl⟩, fun b h => by cases h⟩) (by kernel_rfl) (by kernel_rfl) (by kernel_rfl) (by kernel_rfl) rfl ⟨by rfl, ?_⟩ ?_
      · (intro w hT; go_simp; exact LandsX.enter ((around9_any l k _ hk OK.out).mono fun e w' h => by obtain ⟨lv, he, o, r⟩ := h; exact lands_around l k d W0 hT he o r))
      intro v3 hv3 hf3
      obtain ⟨b3, c3, rfl⟩ := hv3
      try simp only [Act.put, List.getElem_toArray, List.getElem_cons_succ, List.getElem_cons_zero, List.setIfInBounds_toArray, List.set_cons_zero, List.set_cons_succ]
      refine wpX_take (i := 4) rfl (by kernel_rfl) (fun bl => .pointer (some ⟨bl.foldr max 0 + 1, 0, none⟩)) (fun bl => ⟨⟨_, rfl⟩, fun b h => by obtain rfl := Option.some.inj h; exact fresh_max bl⟩) (by kernel_rfl) (by kernel_rfl) (by kernel_rfl) (by kernel_rfl) rfl ⟨by rfl, ?_⟩ ?_
      · (intro w hT; go_simp; exact lands_alloc (P := Try.prog) l k d W0 hT)
      intro v4 hv4 hf4
      obtain ⟨g3, rfl⟩ := hv4
      try simp only [Act.put, List.getElem_toArray, List.getElem_cons_succ, List.getElem_cons_zero, List.setIfInBounds_toArray, List.set_cons_zero, List.set_cons_succ]
      refine wpX_take (i := 5) rfl (by kernel_rfl) (fun bl => .pointer (some ⟨bl.foldr max 0 + 1, 0, none⟩)) (fun bl => ⟨⟨_, rfl⟩, fun b h => by obtain rfl := Option.some.inj h; exact fresh_max bl⟩) (by kernel_rfl) (by kernel_rfl) (by kernel_rfl) (by kernel_rfl) rfl ⟨by rfl, ?_⟩ ?_
      · (intro w hT; go_simp; exact lands_alloc (P := Try.prog) l k d W0 hT)
      intro v5 hv5 hf5
      obtain ⟨g4, rfl⟩ := hv5
      try simp only [Act.put, List.getElem_toArray, List.getElem_cons_succ, List.getElem_cons_zero, List.setIfInBounds_toArray, List.set_cons_zero, List.set_cons_succ]
      refine wpX_tail (by kernel_rfl) ?_
      intro wt hT hG
      have HG := Lib.hid hG
      have HT := Lib.hid hT
      have R1 := Lib.hid (hG.1.1.1.1.2 _ rfl)
      have R3 := Lib.hid (hG.1.1.2 _ rfl)
      have G3 := Lib.hid (hG.1.2 g3 rfl).1
      have G4 := Lib.hid (hG.2 g4 rfl).1
      have hne : g3 ≠ g4 := by
        have := hf5 g4 rfl
        intro e; apply this; rw [e]; simp [blkD]
      have HZ3 := Lib.hid (hG.1.2 g3 rfl).2
      have HZ4 := Lib.hid ((setRow_other wt g3 g4 (aroundC l k (.slice (some ⟨b1, 0, none⟩) (splitL l).length c1)) (Ne.symm hne)).trans (hG.2 g4 rfl).2)
      clear hG hT hf0 hf1 hf2 hf3 hf4 hf5
      refine wpAny_one (i := 6) (by kernel_rfl) rfl (fun K hK => ?_)
      (rw [if_pos (by rfl)]; refine wp_store_row 56 _ _ rfl g3 (aroundC l k (.slice (some ⟨b1, 0, none⟩) (splitL l).length c1)) rfl rfl 56 _ HZ3.out (around_info2 _ _ _) rfl (aroundC_one _ _ _ _ _) ?_)
      refine hK.out _ _ ?_
      clear hK K
      try simp only [Act.put, List.getElem_toArray, List.getElem_cons_succ, List.getElem_cons_zero, List.setIfInBounds_toArray, List.set_cons_zero, List.set_cons_succ]
      refine wpAny_one (i := 7) (by kernel_rfl) rfl (fun K hK => ?_)
      (rw [if_pos (by rfl)]; refine wp_store_row 56 _ _ rfl g4 (aroundC l k (.slice (some ⟨b3, 0, none⟩) (splitL l).length c3)) rfl rfl 56 _ HZ4.out (around_info2 _ _ _) rfl (aroundC_one _ _ _ _ _) ?_)
      refine hK.out _ _ ?_
      clear hK K
      try simp only [Act.put, List.getElem_toArray, List.getElem_cons_succ, List.getElem_cons_zero, List.setIfInBounds_toArray, List.set_cons_zero, List.set_cons_succ]
      refine wpAny_end (by kernel_rfl) ?_ _
      refine NoPanic.normal ?_
      have k13 : b1 ≠ g3 := own_ne_heap R1.out HZ3.out (by decide)
      have k14 : b1 ≠ g4 := own_ne_heap R1.out (HG.out.2 g4 rfl).2 (by decide)
      have k33 : b3 ≠ g3 := own_ne_heap R3.out HZ3.out (by decide)
      have k34 : b3 ≠ g4 := own_ne_heap R3.out (HG.out.2 g4 rfl).2 (by decide)
      have q1 := own_setRow (own_setRow R1.out (aroundC l k (.slice (some ⟨b1, 0, none⟩) (splitL l).length c1)) k13) (aroundC l k (.slice (some ⟨b3, 0, none⟩) (splitL l).length c3)) k14
      have q3 := own_setRow (own_setRow R3.out (aroundC l k (.slice (some ⟨b1, 0, none⟩) (splitL l).length c1)) k33) (aroundC l k (.slice (some ⟨b3, 0, none⟩) (splitL l).length c3)) k34
      rw [lineVs_strs] at q1 q3
      have S1 := Lib.hid (SR.of_own q1)
      have S3 := Lib.hid (SR.of_own q3)
      have F3 : Hid (((wt.setRow g3 (aroundC l k (.slice (some ⟨b1, 0, none⟩) (splitL l).length c1))).setRow g4 (aroundC l k (.slice (some ⟨b3, 0, none⟩) (splitL l).length c3))).heap[g3]? = _) := (setRow_other _ _ _ _ hne).trans (setRow_heap _ _ _ _ _ _ HZ3.out)
      have F4 : Hid (((wt.setRow g3 (aroundC l k (.slice (some ⟨b1, 0, none⟩) (splitL l).length c1))).setRow g4 (aroundC l k (.slice (some ⟨b3, 0, none⟩) (splitL l).length c3))).heap[g4]? = _) := setRow_heap _ _ _ _ _ _ HZ4.out
      have OZ : Hid (Old w ((wt.setRow g3 (aroundC l k (.slice (some ⟨b1, 0, none⟩) (splitL l).length c1))).setRow g4 (aroundC l k (.slice (some ⟨b3, 0, none⟩) (splitL l).length c3)))) := by
        have ow : Old w W0 := by rw [HW0.out]; exact O0.out.trans P2.out
        have h3 := G3.out
        have h4 := G4.out
        have hsz := ow.size
        exact below_setRow (below_setRow (ow.trans HT.out.2.2) (by omega) _) (by omega) _
      clear q1 q3 HZ3 HZ4 HG HT k13 k14 k33 k34 G3 G4 R1 R3 TD0 hne
      generalize (wt.setRow g3 (aroundC l k (.slice (some ⟨b1, 0, none⟩) (splitL l).length c1))).setRow g4 (aroundC l k (.slice (some ⟨b3, 0, none⟩) (splitL l).length c3)) = wz at S1 S3 F3 F4 OZ ⊢
      have cc : ∀ (g b c j : Nat), wz.heap[g]? = some (.cells (aroundC l k (.slice (some ⟨b, 0, none⟩) (splitL l).length c)) 56 (0, 0)) → wz.cell? ⟨g, j, none⟩ = (aroundC l k (.slice (some ⟨b, 0, none⟩) (splitL l).length c))[j]? := fun g b c j h => by
        unfold World.cell?; rw [h]; simp
      have e0 : wz.cell? ⟨g3, 0, none⟩ = some (.string (tx (l.take k))) := cc g3 b1 c1 0 F3.out
      have e1 : wz.cell? ⟨g3, 1, none⟩ = some (.string (tx (l.drop k))) := cc g3 b1 c1 1 F3.out
      have e2 : wz.cell? ⟨g3, 2, none⟩ = some (.string (tx (lineB l k))) := cc g3 b1 c1 2 F3.out
      have e3 : wz.cell? ⟨g3, 3, none⟩ = some (.string (tx (lineA l k))) := cc g3 b1 c1 3 F3.out
      have e4 : wz.cell? ⟨g3, 4, none⟩ = some (.string (tx (lineB l k ++ lineA l k))) := cc g3 b1 c1 4 F3.out
      have e5 : wz.cell? ⟨g3, 5, none⟩ = some (.int .i64 (row l k)) := cc g3 b1 c1 5 F3.out
      have e6 : wz.cell? ⟨g3, 6, none⟩ = some (.int .i64 (lineB l k).length) := cc g3 b1 c1 6 F3.out
      have e7 : wz.cell? ⟨g3, 7, none⟩ = some (.slice (some ⟨b1, 0, none⟩) (splitL l).length c1) := cc g3 b1 c1 7 F3.out
      have e8 : wz.cell? ⟨g3, 8, none⟩ = some (.bool (decide (row l k + 1 = (splitL l).length))) := cc g3 b1 c1 8 F3.out
      have e9 : wz.cell? ⟨g3, 9, none⟩ = some (.int .i64 (lineA l k).length) := cc g3 b1 c1 9 F3.out
      have u0 : wz.cell? ⟨g4, 0, none⟩ = some (.string (tx (l.take k))) := cc g4 b3 c3 0 F4.out
      have u1 : wz.cell? ⟨g4, 1, none⟩ = some (.string (tx (l.drop k))) := cc g4 b3 c3 1 F4.out
      have u2 : wz.cell? ⟨g4, 2, none⟩ = some (.string (tx (lineB l k))) := cc g4 b3 c3 2 F4.out
      have u3 : wz.cell? ⟨g4, 3, none⟩ = some (.string (tx (lineA l k))) := cc g4 b3 c3 3 F4.out
      have u4 : wz.cell? ⟨g4, 4, none⟩ = some (.string (tx (lineB l k ++ lineA l k))) := cc g4 b3 c3 4 F4.out
      have u5 : wz.cell? ⟨g4, 5, none⟩ = some (.int .i64 (row l k)) := cc g4 b3 c3 5 F4.out
      have u6 : wz.cell? ⟨g4, 6, none⟩ = some (.int .i64 (lineB l k).length) := cc g4 b3 c3 6 F4.out
      have u7 : wz.cell? ⟨g4, 7, none⟩ = some (.slice (some ⟨b3, 0, none⟩) (splitL l).length c3) := cc g4 b3 c3 7 F4.out
      have u8 : wz.cell? ⟨g4, 8, none⟩ = some (.bool (decide (row l k + 1 = (splitL l).length))) := cc g4 b3 c3 8 F4.out
      have u9 : wz.cell? ⟨g4, 9, none⟩ = some (.int .i64 (lineA l k).length) := cc g4 b3 c3 9 F4.out
      clear cc F3 F4
      generalize tx (l.take k) = A0 at e0 u0
      generalize tx (l.drop k) = A1 at e1 u1
      generalize tx (lineB l k) = A2 at e2 u2
      generalize tx (lineA l k) = A3 at e3 u3
      generalize tx (lineB l k ++ lineA l k) = A4 at e4 u4
      generalize (row l k : Int) = A5 at e5 u5
      generalize ((lineB l k).length : Int) = A6 at e6 u6
      generalize decide (row l k + 1 = (splitL l).length) = A8 at e8 u8
      generalize ((lineA l k).length : Int) = A9 at e9 u9
      go_wp2_with (go_at_call 21; refine (same7_eq _ _ _ wz S1.out S3.out).mono ?_; rintro e w5 ⟨rfl, n5, rfl⟩)
      go_ret
      exact ⟨rfl, OZ.out.trans (Old.drewN _ _)⟩
  · have d1 : Hid (decide (s.size ≤ 2147483647) = false) := by unfold Hid; simpa using h1
    go_wp2_with (go_at_call 22; refine (fits_any s z _ (by omega)).mono ?_; rw [d1.out]; rintro e w1 ⟨rfl, o1⟩; have O1 := Lib.hid (O0.out.trans o1); clear o1)
    go_ret
    exact ⟨rfl, O1.out⟩
end Go.Proofs.Ytbkdppfjmfepiaa
