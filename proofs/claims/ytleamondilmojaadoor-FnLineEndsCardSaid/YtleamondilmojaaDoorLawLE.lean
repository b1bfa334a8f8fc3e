/- FnLineEnds: at a line's beginning the column is 0, at its end nothing of the line stands behind the cursor. (Printed by mklawle.py.) -/
import Derived.Test.YtleamondilmojaaDoorLawE
import Derived.Test.YtleamondilmojaaDoorAround
import Derived.Test.YtleamondilmojaaDoorAnyX5
import Derived.Deep.Cut
import Derived.Deep.RegionHeld3
namespace Go.Proofs.YtleamondilmojaaDoor
open Go.RowKit
set_option linter.unusedVariables false
set_option linter.unusedSimpArgs false
set_option linter.unnecessarySimpa false
set_option maxRecDepth 100000

/-- Within the three calls: the documents stay. -/
def TL (l : Bs) (k ka kb d a b : Nat) (W0 : World) (w : World) : Prop := DB w d l k ∧ DB w a l ka ∧ DB w b l kb ∧ Old W0 w
theorem TL.old {l : Bs} {k ka kb d a b : Nat} {W0 w w' : World} (h : TL l k ka kb d a b W0 w) (o : Old w w') : TL l k ka kb d a b W0 w' := ⟨h.1.old o, h.2.1.old o, h.2.2.1.old o, h.2.2.2.trans o⟩
def AV (l : Bs) (k : Nat) (v : Value) : Prop := ∃ b c, v = aroundV l k (.slice (some ⟨b, 0, none⟩) (splitL l).length c)
def VL (l : Bs) (k ka kb : Nat) (i : Nat) (v : Value) : Prop := match i with
  | 0 => v = .agg #[.string (tx l), .int .i64 ka]
  | 2 => v = .agg #[.string (tx l), .int .i64 kb]
  | 4 => v = .agg #[.string (tx l), .int .i64 k]
  | 1 => AV l ka v
  | 3 => AV l kb v
  | 5 => AV l k v
  | _ => ∃ g, v = .pointer (some ⟨g, 0, none⟩)
def WL (W0 : World) (i : Nat) (v : Value) (w : World) : Prop := match i with
  | 0 => True
  | 1 => True
  | 2 => True
  | 3 => True
  | 4 => True
  | 5 => True
  | _ => ∀ g, v = .pointer (some ⟨g, 0, none⟩) → W0.heap.size ≤ g ∧ w.heap[g]? = some (.cells #[.string ⟨#[]⟩, .string ⟨#[]⟩, .string ⟨#[]⟩, .string ⟨#[]⟩, .string ⟨#[]⟩, .int .i64 0, .int .i64 0, .slice none 0 0, .bool false, .int .i64 0, .string ⟨#[]⟩, .string ⟨#[]⟩, .string ⟨#[]⟩, .string ⟨#[]⟩] 50 (0, 0))
def blkL (i : Nat) (v : Value) : Option Nat := match i, v with
  | 6, .pointer (some a) => some a.block
  | 7, .pointer (some a) => some a.block
  | 8, .pointer (some a) => some a.block
  | _, _ => none
theorem WL.old {i : Nat} {W0 w w' : World} {v : Value} (h : WL W0 i v w) (o : Old w w') : WL W0 i v w' := by
  unfold WL at *
  split at h
  · trivial
  · trivial
  · trivial
  · trivial
  · trivial
  · trivial
  · exact fun g e => ⟨(h g e).1, (o.heap (World.lt_of_heap (h g e).2)).trans (h g e).2⟩
theorem lands_avl (l : Bs) (k ka kb d a b q : Nat) (W0 : World) {w w' : World} {e : Ending} {lv : Value} (hT : TL l k ka kb d a b W0 w) (he : e = .returned (aroundV l q lv)) (o : Old w w') (r : w'.ownsRow w.heap.size 9 1 lv (splitL l).length (lineVs (splitL l))) :
    ∃ v, e = .returned v ∧ TL l k ka kb d a b W0 w' ∧ AV l q v ∧ True ∧ Old w w' ∧ ∀ b, none = some b → w.heap.size ≤ b ∧ b < w'.heap.size := by
  obtain ⟨b, c, rfl, _⟩ := lineVs_at r (splitL_pos l)
  exact ⟨_, he, hT.old o, ⟨b, c, rfl⟩, trivial, o, fun b h => by cases h⟩
theorem lands_allocl (l : Bs) (k ka kb d a b : Nat) (W0 : World) {w : World} (hT : TL l k ka kb d a b W0 w) {P : Program} : LandsX P (fun v w' => TL l k ka kb d a b W0 w' ∧ (∃ g, v = .pointer (some ⟨g, 0, none⟩)) ∧ (∀ g, v = .pointer (some ⟨g, 0, none⟩) → W0.heap.size ≤ g ∧ w'.heap[g]? = some (.cells #[.string ⟨#[]⟩, .string ⟨#[]⟩, .string ⟨#[]⟩, .string ⟨#[]⟩, .string ⟨#[]⟩, .int .i64 0, .int .i64 0, .slice none 0 0, .bool false, .int .i64 0, .string ⟨#[]⟩, .string ⟨#[]⟩, .string ⟨#[]⟩, .string ⟨#[]⟩] 50 (0, 0))) ∧ Old w w' ∧ ∀ b, (match v with | .pointer (some a) => some a.block | _ => none) = some b → w.heap.size ≤ b ∧ b < w'.heap.size)
    (.ok (.value (.pointer (some ⟨w.heap.size, 0, none⟩))) (w.alloc (.cells #[.string ⟨#[]⟩, .string ⟨#[]⟩, .string ⟨#[]⟩, .string ⟨#[]⟩, .string ⟨#[]⟩, .int .i64 0, .int .i64 0, .slice none 0 0, .bool false, .int .i64 0, .string ⟨#[]⟩, .string ⟨#[]⟩, .string ⟨#[]⟩, .string ⟨#[]⟩] 50 (0, 0)))) := by
  refine LandsX.value ⟨hT.old (Old.alloc _ _), ⟨_, rfl⟩, fun g e => ?_, Old.alloc _ _, fun b h => ?_⟩
  · injection e with e; injection e with e; injection e with e
    subst e
    exact ⟨hT.2.2.2.size, heap_alloc_new w _⟩
  · obtain rfl := Option.some.inj h
    exact ⟨Nat.le_refl _, by simp⟩
theorem below_row {B g : Nat} {u v : World} (h : Below B u v) (hg : B ≤ g) (C : Array Value) : Below B u (v.setRow g C) := below_setRow h hg C
set_option maxHeartbeats 8000000 in
theorem lawLE_any (s : ByteArray) (z : Int) (w : World) (hs : s.size ≤ 9223372036854775807) (hz : (Lit.int .i64 z).wf = true) :
    Calls Tryd.prog 9 #[.agg #[.string s, .int .i64 z]] w fun e w' => e = .returned (.bool true) ∧ Below w.heap.size w w' := by
  have C0 : Hid (∀ w0 w', w0 = w.alloc (.cells #[.string s, .int .i64 z] 34) → Old w0 w' → w'.cell? ⟨w.heap.size, 0, none⟩ = some (.string s) ∧ w'.cell? ⟨w.heap.size, 1, none⟩ = some (.int .i64 z)) := fun w0 w' e o => by
    subst e
    have c0 := (World.cell?_alloc_mark w #[.string s, .int .i64 z] 34 (0, 0) 0).trans rfl
    have c1 := (World.cell?_alloc_mark w #[.string s, .int .i64 z] 34 (0, 0) 1).trans rfl
    have hlt := World.block_lt_of_cell? _ _ c0
    exact ⟨(o.cell hlt).trans c0, (o.cell hlt).trans c1⟩
  have O0 := Lib.hid (Old.alloc w (.cells #[.string s, .int .i64 z] 34))
  have B0 : Hid (∀ l k, s = tx l → z = ((k : Nat) : Int) → DB (w.alloc (.cells #[.string s, .int .i64 z] 34)) w.heap.size l k) := fun l k e1 e2 => by subst e1 e2; exact DB.new w l k
  clear hz
  go_enter Tryd.func9, Tryd.ntmps9
  go_upto_region 1 with fail
  generalize hW : w.alloc (.cells #[.string s, .int .i64 z] 34) = Wd at O0 B0 ⊢
  obtain ⟨d, hd⟩ : ∃ d, d = w.heap.size := ⟨_, rfl⟩
  rw [← hd]
  rw [← hd] at B0
  have DC : Hid (∀ w', Old Wd w' → w'.cell? ⟨d, 0, none⟩ = some (.string s) ∧ w'.cell? ⟨d, 1, none⟩ = some (.int .i64 z)) := fun w' o => by
    rw [hd]; exact C0.out _ w' hW.symm o
  clear hW hd C0
  obtain ⟨x0, x1⟩ := DC.out Wd (Old.refl _)
  by_cases h1 : s.size ≤ 2147483647
  · have d1 : Hid (decide (s.size ≤ 2147483647) = true) := by unfold Hid; simpa using h1
    cases e2 : drB s z with
    | true =>
      have H2 := Lib.hid e2
      obtain ⟨l, rfl⟩ : ∃ l, s = tx l := ⟨bs s, (tx_bs s).symm⟩
      obtain ⟨k, rfl, hk, ok, hl⟩ := dr_ok e2
      have OK := Lib.hid ok
      have BD := Lib.hid (B0.out l k rfl rfl)
      have E10 := fun w6 : World => ef_any l k (.slice (some ⟨w6.heap.size, 0, none⟩) 1 1) [⟨13, 0, ⟨#[]⟩, false⟩] [[]] ⟨l, k - (lineB l k).length, -1⟩ (w6.alloc (.cells #[.int .i64 13, .int .i64 0, .string ⟨#[]⟩, .bool false] 40)) hk OK.out (script_one w6 13 0 ⟨#[]⟩ false) (sin_one _ _ _ _) (Chain.one (does_glb l k (-1) OK.out hk 0 ⟨#[]⟩ false)) (by simp)
      have E20 := fun w6 : World => ef_any l k (.slice (some ⟨w6.heap.size, 0, none⟩) 1 1) [⟨12, 0, ⟨#[]⟩, false⟩] [[]] ⟨l, k + (lineA l k).length, -1⟩ (w6.alloc (.cells #[.int .i64 12, .int .i64 0, .string ⟨#[]⟩, .bool false] 40)) hk OK.out (script_one w6 12 0 ⟨#[]⟩ false) (sin_one _ _ _ _) (Chain.one (does_gle l k (-1) OK.out hk 0 ⟨#[]⟩ false)) (by simp)
      have F : Hid (lineB l (k - (lineB l k).length) = [] ∧ lineA l (k + (lineA l k).length) = [] ∧ row l (k - (lineB l k).length) = row l k ∧ row l (k + (lineA l k).length) = row l k ∧ lineB l (k - (lineB l k).length) ++ lineA l (k - (lineB l k).length) = lineB l k ++ lineA l k ∧ lineB l (k + (lineA l k).length) ++ lineA l (k + (lineA l k).length) = lineB l k ++ lineA l k) := ⟨lineB_begin hk, lineA_end l k, row_begin hk, row_end hk, line_begin hk, line_end hk⟩
      have hroom := lineA_room l k
      have hka : k - (lineB l k).length ≤ l.length := by omega
      have hkb : k + (lineA l k).length ≤ l.length := by omega
      generalize k - (lineB l k).length = ka at E10 F hka
      generalize k + (lineA l k).length = kb at E20 F hkb
      have E1 := Lib.hid E10
      have E2 := Lib.hid E20
      clear e2 ok B0 E10 E20 hroom
      go_upto_region 6 with (first
        | (go_at_call 15; refine (fits_any (tx l) k _ (by omega)).mono ?_; rw [d1.out]; rintro e w1 ⟨rfl, o1⟩; have P1 := Lib.hid o1; have D1 := DC.out _ o1; obtain ⟨y0, y1⟩ := D1; clear o1)
        | (go_at_call 16; refine (right_any (tx l) k _ (by omega)).mono ?_; rw [H2.out]; rintro e w2 ⟨rfl, o2⟩; have P2 := Lib.hid (P1.out.trans o2); have D2 := DC.out _ P2.out; obtain ⟨t0, t1⟩ := D2; clear o2)
        | (go_at_call 17; refine (E1.out _).mono ?_; rintro e w3 ⟨tv3, rfl, o3, own3⟩; have P3 := Lib.hid (P2.out.trans ((Old.alloc _ _).trans o3)); clear o3 own3))
      have ba := Lib.hid (DB.new w3 l ka)
      have P4 := Lib.hid (P3.out.trans (Old.alloc w3 (.cells #[.string (tx l), .int .i64 ka] 34)))
      obtain ⟨a, ha⟩ : ∃ a, a = w3.heap.size := ⟨_, rfl⟩
      rw [← ha] at ba ⊢
      clear ha x0 x1 y0 y1 t0 t1
      generalize w3.alloc (.cells #[.string (tx l), .int .i64 ka] 34) = w4 at ba P4 ⊢
      have bd4 := Lib.hid (BD.out.old P4.out)
      have c0 := bd4.out.c0
      have c1 := bd4.out.c1
      go_upto_region 7 with (go_at_call 17; refine (E2.out _).mono ?_; rintro e w5 ⟨tv5, rfl, o5, own5⟩; have P5 := Lib.hid (P4.out.trans ((Old.alloc _ _).trans o5)); have ba5 := Lib.hid (ba.out.old ((Old.alloc _ _).trans o5)); clear o5 own5)
      clear c0 c1
      have bb := Lib.hid (DB.new w5 l kb)
      have P6 := Lib.hid (P5.out.trans (Old.alloc w5 (.cells #[.string (tx l), .int .i64 kb] 34)))
      have ba6 := Lib.hid (ba5.out.old (Old.alloc w5 (.cells #[.string (tx l), .int .i64 kb] 34)))
      obtain ⟨b, hb⟩ : ∃ b, b = w5.heap.size := ⟨_, rfl⟩
      rw [← hb] at bb ⊢
      clear hb
      generalize w5.alloc (.cells #[.string (tx l), .int .i64 kb] 34) = w6 at bb P6 ba6 ⊢
      have bd6 := Lib.hid (BD.out.old P6.out)
      obtain ⟨v7, w7, hr7, o7, r7, ⟨vb7, vc7, rfl⟩, own7⟩ := conv_runes (P := Tryd.prog) w6 9 42 21 (tx l) (by kernel_rfl) (by kernel_rfl) (by kernel_rfl) (by rw [tx_size]; omega)
      obtain ⟨v8, w8, hr8, o8, r8, ⟨vb8, vc8, rfl⟩, own8⟩ := conv_runes (P := Tryd.prog) w7 9 42 21 (tx l) (by kernel_rfl) (by kernel_rfl) (by kernel_rfl) (by rw [tx_size]; omega)
      have hrn : (runes (tx l)).length = l.length := by rw [runes_tx OK.out, List.length_map]
      rw [hrn] at hr7 hr8
      have O67 := Lib.hid o7
      have O78 := Lib.hid o8
      have ya0 := ba6.out.c0
      have ya1 := ba6.out.c1
      have yb0 := bb.out.c0
      have yb1 := bb.out.c1
      have yd0 := bd6.out.c0
      have yd1 := bd6.out.c1
      have za1 := (ba6.out.old o7).c1
      have zb0 := (bb.out.old o7).c0
      have zb1 := (bb.out.old o7).c1
      have zd0 := (bd6.out.old o7).c0
      have ka1 := (ba6.out.old (o7.trans o8)).c1
      clear o7 o8 r7 r8 own7 own8 hrn
      go_upto_region 9 with fail
      clear ya0 ya1 yb0 yb1 yd0 yd1 za1 zb0 zb1 zd0 ka1 hr7 hr8
      obtain ⟨W0, hW0⟩ : ∃ W0, W0 = w8 := ⟨_, rfl⟩
      have O68 := Lib.hid (O67.out.trans O78.out)
      have T0 : Hid (TL l k ka kb d a b W0 w8.drew) := by
        rw [hW0]
        exact TL.old ⟨bd6.out.old O68.out, ba6.out.old O68.out, bb.out.old O68.out, Old.refl _⟩ (Old.drew _)
      have HW0 := Lib.hid hW0
      clear hW0
      refine wp_region_noPanic ?_
      refine wp_region_X (TL l k ka kb d a b W0) (VL l k ka kb) (WL W0) (fun j => decide (9 ≤ j)) (blkL) 9 3 (fun i v w w' => WL.old) (by kernel_rfl) T0.out rfl ?_
      refine wpX5_take (i := 0) rfl (by kernel_rfl) (fun _ => .agg #[.string (tx l), .int .i64 ka]) (fun _ => ⟨rfl, fun b h => by cases h⟩) (by kernel_rfl) (by kernel_rfl) (by kernel_rfl) (by kernel_rfl) rfl ⟨by rfl, ?_⟩ ?_
      · (intro w hT; have h0 := hT.1.c0; have h1 := hT.1.c1; have h2 := hT.2.1.c0; have h3 := hT.2.1.c1; have h4 := hT.2.2.1.c0; have h5 := hT.2.2.1.c1; go_simp; exact LandsX.value ⟨hT, rfl, trivial, Old.refl _, fun b h => by cases h⟩)
      intro v0 hv0 hf0
      obtain rfl : v0 = _ := hv0
      try simp only [Act.put, List.getElem_toArray, List.getElem_cons_succ, List.getElem_cons_zero, List.setIfInBounds_toArray, List.set_cons_zero, List.set_cons_succ]
      refine wpX5_take (i := 1) rfl (by kernel_rfl) (fun _ => aroundV l ka (.slice (some ⟨0, 0, none⟩) (splitL l).length 0)) (fun _ => ⟨⟨0, 0, rfl⟩, fun b h => by cases h⟩) (by kernel_rfl) (by kernel_rfl) (by kernel_rfl) (by kernel_rfl) rfl ⟨by rfl, ?_⟩ ?_
      · (intro w hT; go_simp; exact LandsX.enter ((around_any l ka _ hka OK.out).mono fun e w' h => by obtain ⟨lv, he, o, r⟩ := h; exact lands_avl l k ka kb d a b ka W0 hT he o r))
      intro v1 hv1 hf1
      obtain ⟨b1, c1, rfl⟩ := hv1
      try simp only [Act.put, List.getElem_toArray, List.getElem_cons_succ, List.getElem_cons_zero, List.setIfInBounds_toArray, List.set_cons_zero, List.set_cons_succ]
      refine wpX5_take (i := 2) rfl (by kernel_rfl) (fun _ => .agg #[.string (tx l), .int .i64 kb]) (fun _ => ⟨rfl, fun b h => by cases h⟩) (by kernel_rfl) (by kernel_rfl) (by kernel_rfl) (by kernel_rfl) rfl ⟨by rfl, ?_⟩ ?_
      · (intro w hT; have h0 := hT.1.c0; have h1 := hT.1.c1; have h2 := hT.2.1.c0; have h3 := hT.2.1.c1; have h4 := hT.2.2.1.c0; have h5 := hT.2.2.1.c1; go_simp; exact LandsX.value ⟨hT, rfl, trivial, Old.refl _, fun b h => by cases h⟩)
      intro v2 hv2 hf2
      obtain rfl : v2 = _ := hv2
      try simp only [Act.put, List.getElem_toArray, List.getElem_cons_succ, List.getElem_cons_zero, List.setIfInBounds_toArray, List.set_cons_zero, List.set_cons_succ]
      refine wpX5_take (i := 3) rfl (by kernel_rfl) (fun _ => aroundV l kb (.slice (some ⟨0, 0, none⟩) (splitL l).length 0)) (fun _ => ⟨⟨0, 0, rfl⟩, fun b h => by cases h⟩) (by kernel_rfl) (by kernel_rfl) (by kernel_rfl) (by kernel_rfl) rfl ⟨by rfl, ?_⟩ ?_
      · (intro w hT; go_simp; exact LandsX.enter ((around_any l kb _ hkb OK.out).mono fun e w' h => by obtain ⟨lv, he, o, r⟩ := h; exact lands_avl l k ka kb d a b kb W0 hT he o r))
      intro v3 hv3 hf3
      obtain ⟨b3, c3, rfl⟩ := hv3
      try simp only [Act.put, List.getElem_toArray, List.getElem_cons_succ, List.getElem_cons_zero, List.setIfInBounds_toArray, List.set_cons_zero, List.set_cons_succ]
      refine wpX5_take (i := 4) rfl (by kernel_rfl) (fun _ => .agg #[.string (tx l), .int .i64 k]) (fun _ => ⟨rfl, fun b h => by cases h⟩) (by kernel_rfl) (by kernel_rfl) (by kernel_rfl) (by kernel_rfl) rfl ⟨by rfl, ?_⟩ ?_
      · (intro w hT; have h0 := hT.1.c0; have h1 := hT.1.c1; have h2 := hT.2.1.c0; have h3 := hT.2.1.c1; have h4 := hT.2.2.1.c0; have h5 := hT.2.2.1.c1; go_simp; exact LandsX.value ⟨hT, rfl, trivial, Old.refl _, fun b h => by cases h⟩)
      intro v4 hv4 hf4
      obtain rfl : v4 = _ := hv4
      try simp only [Act.put, List.getElem_toArray, List.getElem_cons_succ, List.getElem_cons_zero, List.setIfInBounds_toArray, List.set_cons_zero, List.set_cons_succ]
      refine wpX5_take (i := 5) rfl (by kernel_rfl) (fun _ => aroundV l k (.slice (some ⟨0, 0, none⟩) (splitL l).length 0)) (fun _ => ⟨⟨0, 0, rfl⟩, fun b h => by cases h⟩) (by kernel_rfl) (by kernel_rfl) (by kernel_rfl) (by kernel_rfl) rfl ⟨by rfl, ?_⟩ ?_
      · (intro w hT; go_simp; exact LandsX.enter ((around_any l k _ hk OK.out).mono fun e w' h => by obtain ⟨lv, he, o, r⟩ := h; exact lands_avl l k ka kb d a b k W0 hT he o r))
      intro v5 hv5 hf5
      obtain ⟨b5, c5, rfl⟩ := hv5
      try simp only [Act.put, List.getElem_toArray, List.getElem_cons_succ, List.getElem_cons_zero, List.setIfInBounds_toArray, List.set_cons_zero, List.set_cons_succ]
      refine wpX5_take (i := 6) rfl (by kernel_rfl) (fun bl => .pointer (some ⟨bl.foldr max 0 + 1, 0, none⟩)) (fun bl => ⟨⟨_, rfl⟩, fun b h => by obtain rfl := Option.some.inj h; exact fresh_max bl⟩) (by kernel_rfl) (by kernel_rfl) (by kernel_rfl) (by kernel_rfl) rfl ⟨by rfl, ?_⟩ ?_
      · (intro w hT; go_simp; exact lands_allocl (P := Tryd.prog) l k ka kb d a b W0 hT)
      intro v6 hv6 hf6
      obtain ⟨g6, rfl⟩ := hv6
      try simp only [Act.put, List.getElem_toArray, List.getElem_cons_succ, List.getElem_cons_zero, List.setIfInBounds_toArray, List.set_cons_zero, List.set_cons_succ]
      refine wpX5_take (i := 7) rfl (by kernel_rfl) (fun bl => .pointer (some ⟨bl.foldr max 0 + 1, 0, none⟩)) (fun bl => ⟨⟨_, rfl⟩, fun b h => by obtain rfl := Option.some.inj h; exact fresh_max bl⟩) (by kernel_rfl) (by kernel_rfl) (by kernel_rfl) (by kernel_rfl) rfl ⟨by rfl, ?_⟩ ?_
      · (intro w hT; go_simp; exact lands_allocl (P := Tryd.prog) l k ka kb d a b W0 hT)
      intro v7 hv7 hf7
      obtain ⟨g7, rfl⟩ := hv7
      try simp only [Act.put, List.getElem_toArray, List.getElem_cons_succ, List.getElem_cons_zero, List.setIfInBounds_toArray, List.set_cons_zero, List.set_cons_succ]
      refine wpX5_take (i := 8) rfl (by kernel_rfl) (fun bl => .pointer (some ⟨bl.foldr max 0 + 1, 0, none⟩)) (fun bl => ⟨⟨_, rfl⟩, fun b h => by obtain rfl := Option.some.inj h; exact fresh_max bl⟩) (by kernel_rfl) (by kernel_rfl) (by kernel_rfl) (by kernel_rfl) rfl ⟨by rfl, ?_⟩ ?_
      · (intro w hT; go_simp; exact lands_allocl (P := Tryd.prog) l k ka kb d a b W0 hT)
      intro v8 hv8 hf8
      obtain ⟨g8, rfl⟩ := hv8
      try simp only [Act.put, List.getElem_toArray, List.getElem_cons_succ, List.getElem_cons_zero, List.setIfInBounds_toArray, List.set_cons_zero, List.set_cons_succ]
      refine wpX_tail (by kernel_rfl) ?_
      intro wt hT hG
      have G8 := Lib.hid (hG.2 g8 rfl)
      have G7 := Lib.hid (hG.1.2 g7 rfl)
      have G6 := Lib.hid (hG.1.1.2 g6 rfl)
      have n67 : g6 ≠ g7 := by
        have := hf7 g7 rfl
        intro e; apply this; rw [e]; simp [blkL]
      have n68 : g6 ≠ g8 := by
        have := hf8 g8 rfl
        intro e; apply this; rw [e]; simp [blkL]
      have n78 : g7 ≠ g8 := by
        have := hf8 g8 rfl
        intro e; apply this; rw [e]; simp [blkL]
      have HZ6 := Lib.hid G6.out.2
      have HZ7 := Lib.hid ((setRow_other wt g6 g7 (aroundC l ka (.slice (some ⟨b1, 0, none⟩) (splitL l).length c1)) (Ne.symm n67)).trans G7.out.2)
      have HZ8 := Lib.hid ((setRow_other _ g7 g8 (aroundC l kb (.slice (some ⟨b3, 0, none⟩) (splitL l).length c3)) (Ne.symm n78)).trans ((setRow_other wt g6 g8 (aroundC l ka (.slice (some ⟨b1, 0, none⟩) (splitL l).length c1)) (Ne.symm n68)).trans G8.out.2))
      have HT := Lib.hid hT
      have NN := Lib.hid (And.intro n67 (And.intro n68 n78))
      clear hG hT hf0 hf1 hf2 hf3 hf4 hf5 hf6 hf7 hf8 n67 n68 n78
      refine wpAny_one (i := 9) (by kernel_rfl) rfl (fun K hK => ?_)
      (rw [if_pos (by rfl)]; refine wp_store_row 50 _ _ rfl g6 (aroundC l ka (.slice (some ⟨b1, 0, none⟩) (splitL l).length c1)) rfl rfl 50 _ HZ6.out (around_info2 _ _ _) rfl (aroundC_one _ _ _ _ _) ?_)
      refine hK.out _ _ ?_
      clear hK K
      try simp only [Act.put, List.getElem_toArray, List.getElem_cons_succ, List.getElem_cons_zero, List.setIfInBounds_toArray, List.set_cons_zero, List.set_cons_succ]
      refine wpAny_one (i := 10) (by kernel_rfl) rfl (fun K hK => ?_)
      (rw [if_pos (by rfl)]; refine wp_store_row 50 _ _ rfl g7 (aroundC l kb (.slice (some ⟨b3, 0, none⟩) (splitL l).length c3)) rfl rfl 50 _ HZ7.out (around_info2 _ _ _) rfl (aroundC_one _ _ _ _ _) ?_)
      refine hK.out _ _ ?_
      clear hK K
      try simp only [Act.put, List.getElem_toArray, List.getElem_cons_succ, List.getElem_cons_zero, List.setIfInBounds_toArray, List.set_cons_zero, List.set_cons_succ]
      refine wpAny_one (i := 11) (by kernel_rfl) rfl (fun K hK => ?_)
      (rw [if_pos (by rfl)]; refine wp_store_row 50 _ _ rfl g8 (aroundC l k (.slice (some ⟨b5, 0, none⟩) (splitL l).length c5)) rfl rfl 50 _ HZ8.out (around_info2 _ _ _) rfl (aroundC_one _ _ _ _ _) ?_)
      refine hK.out _ _ ?_
      clear hK K
      try simp only [Act.put, List.getElem_toArray, List.getElem_cons_succ, List.getElem_cons_zero, List.setIfInBounds_toArray, List.set_cons_zero, List.set_cons_succ]
      refine wpAny_end (by kernel_rfl) ?_ _
      refine NoPanic.normal ?_
      have F6 : Hid ((((wt.setRow g6 (aroundC l ka (.slice (some ⟨b1, 0, none⟩) (splitL l).length c1))).setRow g7 (aroundC l kb (.slice (some ⟨b3, 0, none⟩) (splitL l).length c3))).setRow g8 (aroundC l k (.slice (some ⟨b5, 0, none⟩) (splitL l).length c5))).heap[g6]? = _) := (setRow_other _ _ _ _ NN.out.2.1).trans ((setRow_other _ _ _ _ NN.out.1).trans (setRow_heap _ _ _ _ _ _ HZ6.out))
      have F7 : Hid ((((wt.setRow g6 (aroundC l ka (.slice (some ⟨b1, 0, none⟩) (splitL l).length c1))).setRow g7 (aroundC l kb (.slice (some ⟨b3, 0, none⟩) (splitL l).length c3))).setRow g8 (aroundC l k (.slice (some ⟨b5, 0, none⟩) (splitL l).length c5))).heap[g7]? = _) := (setRow_other _ _ _ _ NN.out.2.2).trans (setRow_heap _ _ _ _ _ _ HZ7.out)
      have F8 : Hid ((((wt.setRow g6 (aroundC l ka (.slice (some ⟨b1, 0, none⟩) (splitL l).length c1))).setRow g7 (aroundC l kb (.slice (some ⟨b3, 0, none⟩) (splitL l).length c3))).setRow g8 (aroundC l k (.slice (some ⟨b5, 0, none⟩) (splitL l).length c5))).heap[g8]? = _) := setRow_heap _ _ _ _ _ _ HZ8.out
      have OZ : Hid (Old w (((wt.setRow g6 (aroundC l ka (.slice (some ⟨b1, 0, none⟩) (splitL l).length c1))).setRow g7 (aroundC l kb (.slice (some ⟨b3, 0, none⟩) (splitL l).length c3))).setRow g8 (aroundC l k (.slice (some ⟨b5, 0, none⟩) (splitL l).length c5)))) := by
        have ow : Old w W0 := by rw [HW0.out]; exact O0.out.trans (P6.out.trans O68.out)
        have h6 := G6.out.1
        have h7 := G7.out.1
        have h8 := G8.out.1
        have hsz := ow.size
        exact below_setRow (below_setRow (below_setRow (ow.trans HT.out.2.2.2) (by omega) _) (by omega) _) (by omega) _
      clear HZ6 HZ7 HZ8 G6 G7 G8 HT T0 NN
      generalize ((wt.setRow g6 (aroundC l ka (.slice (some ⟨b1, 0, none⟩) (splitL l).length c1))).setRow g7 (aroundC l kb (.slice (some ⟨b3, 0, none⟩) (splitL l).length c3))).setRow g8 (aroundC l k (.slice (some ⟨b5, 0, none⟩) (splitL l).length c5)) = wz at F6 F7 F8 OZ ⊢
      have cc : ∀ (g q b c j : Nat), wz.heap[g]? = some (.cells (aroundC l q (.slice (some ⟨b, 0, none⟩) (splitL l).length c)) 50 (0, 0)) → wz.cell? ⟨g, j, none⟩ = (aroundC l q (.slice (some ⟨b, 0, none⟩) (splitL l).length c))[j]? := fun g q b c j h => by
        unfold World.cell?; rw [h]; simp
      have e2 : wz.cell? ⟨g6, 2, none⟩ = some (.string (tx (lineB l ka))) := cc g6 ka b1 c1 2 F6.out
      have e4 : wz.cell? ⟨g6, 4, none⟩ = some (.string (tx (lineB l ka ++ lineA l ka))) := cc g6 ka b1 c1 4 F6.out
      have e5 : wz.cell? ⟨g6, 5, none⟩ = some (.int .i64 (row l ka)) := cc g6 ka b1 c1 5 F6.out
      have u3 : wz.cell? ⟨g7, 3, none⟩ = some (.string (tx (lineA l kb))) := cc g7 kb b3 c3 3 F7.out
      have u4 : wz.cell? ⟨g7, 4, none⟩ = some (.string (tx (lineB l kb ++ lineA l kb))) := cc g7 kb b3 c3 4 F7.out
      have u5 : wz.cell? ⟨g7, 5, none⟩ = some (.int .i64 (row l kb)) := cc g7 kb b3 c3 5 F7.out
      have s4 : wz.cell? ⟨g8, 4, none⟩ = some (.string (tx (lineB l k ++ lineA l k))) := cc g8 k b5 c5 4 F8.out
      have s5 : wz.cell? ⟨g8, 5, none⟩ = some (.int .i64 (row l k)) := cc g8 k b5 c5 5 F8.out
      obtain ⟨f1, f2, f3, f4, f5, f6⟩ := F.out
      rw [f1] at e2
      rw [f5] at e4
      rw [f3] at e5
      rw [f2] at u3
      rw [f6] at u4
      rw [f4] at u5
      clear cc F6 F7 F8 f1 f2 f3 f4 f5 f6
      generalize tx (lineB l k ++ lineA l k) = A4 at e4 u4 s4
      generalize (row l k : Int) = A5 at e5 u5 s5
      have t0 : tx ([] : Bs) = ⟨#[]⟩ := rfl
      rw [t0] at e2 u3
      clear t0
      go_wp2_with fail
      go_ret
      exact ⟨rfl, OZ.out⟩
    | false =>
      have H2 := Lib.hid e2
      clear e2
      go_wp2_with (first
        | (go_at_call 15; refine (fits_any s z _ (by omega)).mono ?_; rw [d1.out]; rintro e w1 ⟨rfl, o1⟩; have O1 := Lib.hid (O0.out.trans o1); have D1 := DC.out _ o1; obtain ⟨y0, y1⟩ := D1; clear o1)
        | (go_at_call 16; refine (right_any s z _ (by omega)).mono ?_; rw [H2.out]; rintro e w2 ⟨rfl, o2⟩; have O2 := Lib.hid (O1.out.trans o2); clear o2))
      go_ret
      exact ⟨rfl, O2.out⟩
  · have d1 : Hid (decide (s.size ≤ 2147483647) = false) := by unfold Hid; simpa using h1
    go_wp2_with (go_at_call 15; refine (fits_any s z _ (by omega)).mono ?_; rw [d1.out]; rintro e w1 ⟨rfl, o1⟩; have O1 := Lib.hid (O0.out.trans o1); clear o1)
    go_ret
    exact ⟨rfl, O1.out⟩
end Go.Proofs.YtleamondilmojaaDoor
