/- impl.Segmented: its closure. -/
import Derived.Test.YtalkikljjffpmaaDoorSeg2
import Derived.Test.YtalkikljjffpmaaDoorCaught
import Derived.Deep.RegionHeld3
namespace Go.Proofs.YtalkikljjffpmaaDoor
open Go.RowKit
set_option linter.unusedVariables false
set_option linter.unusedSimpArgs false
set_option linter.unnecessarySimpa false
set_option maxRecDepth 100000

/-- '[]rune(s)', as functions of the world. -/
theorem conv_fun (s : ByteArray) (h : s.size ≤ 70368744177664) : ∃ (cv : World → Value) (cw : World → World), (∀ W, (convert 9 58 (.string s)).run Tryd.prog W = .ok (cv W) (cw W)) ∧ ∀ W, Old W (cw W) ∧ RunesAt (cw W) (cv W) (runes s) := by
  have H := fun W => conv_runes (P := Tryd.prog) W 9 58 21 s (by kernel_rfl) (by kernel_rfl) (by kernel_rfl) h
  refine ⟨fun W => (H W).choose, fun W => (H W).choose_spec.choose, fun W => (H W).choose_spec.choose_spec.1, fun W => ⟨(H W).choose_spec.choose_spec.2.1, (H W).choose_spec.choose_spec.2.2.1⟩⟩
theorem alloc_cell0 (w : World) (v : Value) (T : TypeId) : (w.alloc (.cells #[v] T)).cell? ⟨w.heap.size, 0, none⟩ = some v := (bcell4 (heap_alloc_new w _) 0).trans rfl
theorem alloc_celld (w : World) (v : Value) (T : TypeId) : (w.alloc (.cells #[v] T)).drew.cell? ⟨w.heap.size, 0, none⟩ = some v := by
  show (w.alloc (.cells #[v] T)).cell? ⟨w.heap.size, 0, none⟩ = some v
  exact alloc_cell0 w v T
theorem SegI.slice {w : World} {B1 B2 : Nat} {ov : Value} {us : List Value} {Q : List (List Int × Nat)} (h : SegI w B1 B2 ov us Q) : ∃ ad c, ov = .slice ad Q.length c := by
  rcases h.1.2 with ⟨rfl, h0⟩ | ⟨g, cap, cur, rfl, _⟩
  · exact ⟨none, 0, by rw [h0]⟩
  · exact ⟨_, _, rfl⟩
set_option maxHeartbeats 1000000 in
theorem segc_any (p0 p1 p2 p3 p4 : Nat) (fv x3 : Value) (i4 : Int) (L : List (List Int)) (s : ByteArray) (n : Nat) (w : World) (c0 : w.cell? ⟨p0, 0, none⟩ = some fv) (c1 : w.cell? ⟨p1, 0, none⟩ = some (.string s)) (c2 : w.cell? ⟨p2, 0, none⟩ = some (.int .i64 n)) (c3 : w.cell? ⟨p3, 0, none⟩ = some x3) (c4 : w.cell? ⟨p4, 0, none⟩ = some (.int .i64 i4))
    (f3 : w.frozen? ⟨p3, 0, none⟩ = false) (f4 : w.frozen? ⟨p4, 0, none⟩ = false) (hf : RowR w fv L) (h1 : ∀ l ∈ L, 1 ≤ l.length ∧ l.length ≤ 1000) (hL : L.length ≤ 1000) (ha : asc s) (hs : s.size ≤ 300) (hn : n ≤ s.size)
    (d34 : p3 ≠ p4) (d03 : p0 ≠ p3) (d13 : p1 ≠ p3) (d23 : p2 ≠ p3) (d04 : p0 ≠ p4) (d14 : p1 ≠ p4) (d24 : p2 ≠ p4) :
    Calls Tryd.prog 28 #[.pointer (some ⟨p0, 0, none⟩), .pointer (some ⟨p1, 0, none⟩), .pointer (some ⟨p2, 0, none⟩), .pointer (some ⟨p3, 0, none⟩), .pointer (some ⟨p4, 0, none⟩)] w fun e w' => e = .returned (.tuple #[]) ∧ ∃ w1 rv us Q B1 B2, Old w w1 ∧ SegI w1 B1 B2 rv us Q ∧ Q.map Prod.fst = outS L (lastP (nums s) n) ∧ w.heap.size ≤ B1 ∧ w.heap.size ≤ B2 ∧
      (w' = (w1.setCell ⟨p3, 0, none⟩ rv).setCell ⟨p4, 0, none⟩ (.int .i64 ((lastP (nums s) n).length : Int))) := by
  have HF := Lib.hid hf
  have H1 := Lib.hid h1
  obtain ⟨cv, cw, hcv, hcw⟩ := conv_fun s (by omega)
  have HCW := Lib.hid hcw
  have HA := Lib.hid ha
  have hr := runes_asc ha
  have HR := Lib.hid hr
  obtain ⟨ad, fc, rfl, -⟩ := hf
  have C0 := Lib.hid c0
  have C1 := Lib.hid c1
  have C2 := Lib.hid c2
  have b0 := World.block_lt_of_cell? w _ c0
  have b1 := World.block_lt_of_cell? w _ c1
  have b2 := World.block_lt_of_cell? w _ c2
  have D := Lib.hid (And.intro d34 (And.intro d03 (And.intro d13 (And.intro d23 (And.intro d04 (And.intro d14 d24))))))
  have b3 := World.block_lt_of_cell? w _ c3
  have b4 := World.block_lt_of_cell? w _ c4
  have KP : Hid (∀ W', Old w W' → W'.cell? ⟨p0, 0, none⟩ = some (.slice ad L.length fc) ∧ W'.cell? ⟨p1, 0, none⟩ = some (.string s) ∧ W'.cell? ⟨p2, 0, none⟩ = some (.int .i64 n)) := fun W' o => ⟨(o.cell b0).trans C0.out, (o.cell b1).trans C1.out, (o.cell b2).trans C2.out⟩
  have NL : Hid (n ≤ (runes s).length) := by unfold Hid; rw [hr, length_nums]; exact hn
  have SL : Hid ((runes s).length ≤ 300) := by unfold Hid; rw [hr, length_nums]; exact hs
  clear h1 hcw ha hr d34 d03 d13 d23 d04 d14 d24
  go_enter Tryd.func28, Tryd.ntmps28
  go_wp2_with fail
  refine wp_region_noPanic ?_
  refine wp_region_held_drew (S := (fun w' => w'.cell? ⟨p0, 0, none⟩ = some (.slice ad L.length fc) ∧ w'.cell? ⟨p1, 0, none⟩ = some (.string s) ∧ w'.cell? ⟨p2, 0, none⟩ = some (.int .i64 n))) (by kernel_rfl) (by (try dsimp only); (first | exact ⟨c0, c1, c2⟩ | exact KP.out _ O5.out | exact KP.out _ ((Old.alloc w _).then_drew) | exact KP.out _ (((Old.alloc w _).then_drew).trans (HCW.out _).1) | exact KP.out _ (((Old.drew w).trans (HCW.out _).1).then_alloc _) | exact KP.out _ ((Old.drew w).trans (HCW.out _).1) | exact ⟨k0, k1, k2⟩ | exact ⟨m0, m1, m2⟩ | exact ⟨n0, n1, n2⟩ | go_keep)) (fun hHeld0 => ?_)
  refine wpAnyH_take (i := 0) (v := ?_) rfl (by kernel_rfl) (by kernel_rfl) (by kernel_rfl) (fun _ _ _ h => h) (Or.inl ⟨by rfl, ?_⟩) (by assumption) ?_
  rotate_left
  · (intro w hSw; (try dsimp only at hSw); go_simp; try with_reducible rfl)
  try simp only [Act.put, List.getElem_toArray, List.getElem_cons_succ, List.getElem_cons_zero, List.setIfInBounds_toArray, List.set_cons_zero, List.set_cons_succ]
  refine wpAnyH_take (i := 2) (v := ?_) rfl (by kernel_rfl) (by kernel_rfl) (by kernel_rfl) (fun _ _ _ h => h) (Or.inl ⟨by rfl, ?_⟩) (by assumption) ?_
  rotate_left
  · (intro w hSw; (try dsimp only at hSw); go_simp; try with_reducible rfl)
  try simp only [Act.put, List.getElem_toArray, List.getElem_cons_succ, List.getElem_cons_zero, List.setIfInBounds_toArray, List.set_cons_zero, List.set_cons_succ]
  refine wpAnyH_take (i := 4) (v := ?_) rfl (by kernel_rfl) (by kernel_rfl) (by kernel_rfl) (fun _ _ _ h => h) (Or.inl ⟨by rfl, ?_⟩) (by assumption) ?_
  rotate_left
  · (intro w hSw; (try dsimp only at hSw); go_simp; try with_reducible rfl)
  try simp only [Act.put, List.getElem_toArray, List.getElem_cons_succ, List.getElem_cons_zero, List.setIfInBounds_toArray, List.set_cons_zero, List.set_cons_succ]
  refine wpAnyH_ready (rs := [1, 3]) (by kernel_rfl) (by simp) ?_
  refine AllReadyH.cons rfl (fun K hK => ?_) (AllReadyH.cons rfl (fun K hK => ?_) AllReadyH.nil)
  go_simp
  ((first
      | (go_at_call 29; refine (segs_any _ _ ⟨_, _, _, rfl⟩).mono ?_; rintro e w2 ⟨rfl, rfl⟩)
      | (go_at_call 30; (with_reducible refine (do_any w.heap.size _ _ L (runes s) n _ (((HCW.out _).1.cell (by simp)).trans (alloc_celld _ _ _)) (HF.out.old (((Old.alloc w _).then_drew).trans (HCW.out _).1)) (HCW.out _).2 H1.out hL NL.out SL.out).mono ?_); rintro e w5 ⟨rv, us, Q, B1, B2, rfl, o5, s5, q5, g1, g2⟩; have O5 := Lib.hid ((((Old.alloc w _).then_drew).trans (HCW.out _).1).trans o5); have G1 := Lib.hid (Nat.le_trans ((((Old.alloc w _).then_drew).trans (HCW.out _).1)).size g1); have G2 := Lib.hid (Nat.le_trans ((((Old.alloc w _).then_drew).trans (HCW.out _).1)).size g2); have S5 := Lib.hid s5; have Q5 := Lib.hid q5; obtain ⟨ad5, cc5, rfl⟩ := s5.slice; have e3 := (O5.out.cell (o := 0) b3).trans c3; have e4 := (O5.out.cell (o := 0) b4).trans c4; have z3 := (O5.out.frozen (o := 0) b3).trans f3; have z4 := (O5.out.frozen (o := 0) b4).trans f4; have e4' := (far_cell4 w5 (p := p3) (i := 0) (q := p4) (j := 0) (.slice ad5 Q.length cc5) (Or.inl (Ne.symm D.out.1))).trans e4; have z4' := (frozen_setCell w5 ⟨p3, 0, none⟩ ⟨p4, 0, none⟩ (.slice ad5 Q.length cc5)).trans z4; have e3' := (far_cell4 w5 (p := p4) (i := 0) (q := p3) (j := 0) (.int .i64 ((lastP (runes s) n).length : Int)) (Or.inl D.out.1)).trans e3; have z3' := (frozen_setCell w5 ⟨p4, 0, none⟩ ⟨p3, 0, none⟩ (.int .i64 ((lastP (runes s) n).length : Int))).trans z3; have k0 := (far_cell4 w5 (p := p3) (i := 0) (q := p0) (j := 0) (.slice ad5 Q.length cc5) (Or.inl D.out.2.1)).trans (KP.out _ O5.out).1; have k1 := (far_cell4 w5 (p := p3) (i := 0) (q := p1) (j := 0) (.slice ad5 Q.length cc5) (Or.inl D.out.2.2.1)).trans (KP.out _ O5.out).2.1; have k2 := (far_cell4 w5 (p := p3) (i := 0) (q := p2) (j := 0) (.slice ad5 Q.length cc5) (Or.inl D.out.2.2.2.1)).trans (KP.out _ O5.out).2.2; have m0 := (far_cell4 (w5.setCell ⟨p3, 0, none⟩ (.slice ad5 Q.length cc5)) (p := p4) (i := 0) (q := p0) (j := 0) (.int .i64 ((lastP (runes s) n).length : Int)) (Or.inl D.out.2.2.2.2.1)).trans k0; have m1 := (far_cell4 (w5.setCell ⟨p3, 0, none⟩ (.slice ad5 Q.length cc5)) (p := p4) (i := 0) (q := p1) (j := 0) (.int .i64 ((lastP (runes s) n).length : Int)) (Or.inl D.out.2.2.2.2.2.1)).trans k1; have m2 := (far_cell4 (w5.setCell ⟨p3, 0, none⟩ (.slice ad5 Q.length cc5)) (p := p4) (i := 0) (q := p2) (j := 0) (.int .i64 ((lastP (runes s) n).length : Int)) (Or.inl D.out.2.2.2.2.2.2)).trans k2; clear o5 s5 q5 g1 g2)
      | (go_at_call 30; (with_reducible refine (do_any _ _ _ L (runes s) n _ (alloc_cell0 _ _ _) (HF.out.old ((((Old.drew w).trans (HCW.out _).1).then_alloc _))) ((HCW.out _).2.later (Old.alloc _ _)) H1.out hL NL.out SL.out).mono ?_); rintro e w5 ⟨rv, us, Q, B1, B2, rfl, o5, s5, q5, g1, g2⟩; have O5 := Lib.hid (((((Old.drew w).trans (HCW.out _).1).then_alloc _)).trans o5); have G1 := Lib.hid (Nat.le_trans (((((Old.drew w).trans (HCW.out _).1).then_alloc _))).size g1); have G2 := Lib.hid (Nat.le_trans (((((Old.drew w).trans (HCW.out _).1).then_alloc _))).size g2); have S5 := Lib.hid s5; have Q5 := Lib.hid q5; obtain ⟨ad5, cc5, rfl⟩ := s5.slice; have e3 := (O5.out.cell (o := 0) b3).trans c3; have e4 := (O5.out.cell (o := 0) b4).trans c4; have z3 := (O5.out.frozen (o := 0) b3).trans f3; have z4 := (O5.out.frozen (o := 0) b4).trans f4; have e4' := (far_cell4 w5 (p := p3) (i := 0) (q := p4) (j := 0) (.slice ad5 Q.length cc5) (Or.inl (Ne.symm D.out.1))).trans e4; have z4' := (frozen_setCell w5 ⟨p3, 0, none⟩ ⟨p4, 0, none⟩ (.slice ad5 Q.length cc5)).trans z4; have e3' := (far_cell4 w5 (p := p4) (i := 0) (q := p3) (j := 0) (.int .i64 ((lastP (runes s) n).length : Int)) (Or.inl D.out.1)).trans e3; have z3' := (frozen_setCell w5 ⟨p4, 0, none⟩ ⟨p3, 0, none⟩ (.int .i64 ((lastP (runes s) n).length : Int))).trans z3; have k0 := (far_cell4 w5 (p := p3) (i := 0) (q := p0) (j := 0) (.slice ad5 Q.length cc5) (Or.inl D.out.2.1)).trans (KP.out _ O5.out).1; have k1 := (far_cell4 w5 (p := p3) (i := 0) (q := p1) (j := 0) (.slice ad5 Q.length cc5) (Or.inl D.out.2.2.1)).trans (KP.out _ O5.out).2.1; have k2 := (far_cell4 w5 (p := p3) (i := 0) (q := p2) (j := 0) (.slice ad5 Q.length cc5) (Or.inl D.out.2.2.2.1)).trans (KP.out _ O5.out).2.2; have m0 := (far_cell4 (w5.setCell ⟨p3, 0, none⟩ (.slice ad5 Q.length cc5)) (p := p4) (i := 0) (q := p0) (j := 0) (.int .i64 ((lastP (runes s) n).length : Int)) (Or.inl D.out.2.2.2.2.1)).trans k0; have m1 := (far_cell4 (w5.setCell ⟨p3, 0, none⟩ (.slice ad5 Q.length cc5)) (p := p4) (i := 0) (q := p1) (j := 0) (.int .i64 ((lastP (runes s) n).length : Int)) (Or.inl D.out.2.2.2.2.2.1)).trans k1; have m2 := (far_cell4 (w5.setCell ⟨p3, 0, none⟩ (.slice ad5 Q.length cc5)) (p := p4) (i := 0) (q := p2) (j := 0) (.int .i64 ((lastP (runes s) n).length : Int)) (Or.inl D.out.2.2.2.2.2.2)).trans k2; clear o5 s5 q5 g1 g2)))
  (try go_wp2_with fail)
  refine hK.out _ _ ?_ (fun hHeld1 => ?_)
  · (try dsimp only)
    (first | exact ⟨c0, c1, c2⟩ | exact KP.out _ O5.out | exact KP.out _ ((Old.alloc w _).then_drew) | exact KP.out _ (((Old.alloc w _).then_drew).trans (HCW.out _).1) | exact KP.out _ (((Old.drew w).trans (HCW.out _).1).then_alloc _) | exact KP.out _ ((Old.drew w).trans (HCW.out _).1) | exact ⟨k0, k1, k2⟩ | exact ⟨m0, m1, m2⟩ | exact ⟨n0, n1, n2⟩ | go_keep)
  clear hK K hHeld0
  try simp only [Act.put, List.getElem_toArray, List.getElem_cons_succ, List.getElem_cons_zero, List.setIfInBounds_toArray, List.set_cons_zero, List.set_cons_succ]
  refine wpAnyH_ready (rs := [3]) (by kernel_rfl) (by simp) ?_
  refine AllReadyH.cons rfl (fun K hK => ?_) AllReadyH.nil
  go_simp
  refine hK.out _ _ ?_ (fun hHeld2 => ?_)
  · (try dsimp only)
    (first | exact ⟨c0, c1, c2⟩ | exact KP.out _ O5.out | exact KP.out _ ((Old.alloc w _).then_drew) | exact KP.out _ (((Old.alloc w _).then_drew).trans (HCW.out _).1) | exact KP.out _ (((Old.drew w).trans (HCW.out _).1).then_alloc _) | exact KP.out _ ((Old.drew w).trans (HCW.out _).1) | exact ⟨k0, k1, k2⟩ | exact ⟨m0, m1, m2⟩ | exact ⟨n0, n1, n2⟩ | go_keep)
  clear hK K hHeld1
  try simp only [Act.put, List.getElem_toArray, List.getElem_cons_succ, List.getElem_cons_zero, List.setIfInBounds_toArray, List.set_cons_zero, List.set_cons_succ]
  refine wpAnyH_ready (rs := [5]) (by kernel_rfl) (by simp) ?_
  refine AllReadyH.cons rfl (fun K hK => ?_) AllReadyH.nil
  go_simp
  ((first
      | (go_at_call 29; refine (segs_any _ _ ⟨_, _, _, rfl⟩).mono ?_; rintro e w2 ⟨rfl, rfl⟩)
      | (go_at_call 30; (with_reducible refine (do_any w.heap.size _ _ L (runes s) n _ (((HCW.out _).1.cell (by simp)).trans (alloc_celld _ _ _)) (HF.out.old (((Old.alloc w _).then_drew).trans (HCW.out _).1)) (HCW.out _).2 H1.out hL NL.out SL.out).mono ?_); rintro e w5 ⟨rv, us, Q, B1, B2, rfl, o5, s5, q5, g1, g2⟩; have O5 := Lib.hid ((((Old.alloc w _).then_drew).trans (HCW.out _).1).trans o5); have G1 := Lib.hid (Nat.le_trans ((((Old.alloc w _).then_drew).trans (HCW.out _).1)).size g1); have G2 := Lib.hid (Nat.le_trans ((((Old.alloc w _).then_drew).trans (HCW.out _).1)).size g2); have S5 := Lib.hid s5; have Q5 := Lib.hid q5; obtain ⟨ad5, cc5, rfl⟩ := s5.slice; have e3 := (O5.out.cell (o := 0) b3).trans c3; have e4 := (O5.out.cell (o := 0) b4).trans c4; have z3 := (O5.out.frozen (o := 0) b3).trans f3; have z4 := (O5.out.frozen (o := 0) b4).trans f4; have e4' := (far_cell4 w5 (p := p3) (i := 0) (q := p4) (j := 0) (.slice ad5 Q.length cc5) (Or.inl (Ne.symm D.out.1))).trans e4; have z4' := (frozen_setCell w5 ⟨p3, 0, none⟩ ⟨p4, 0, none⟩ (.slice ad5 Q.length cc5)).trans z4; have e3' := (far_cell4 w5 (p := p4) (i := 0) (q := p3) (j := 0) (.int .i64 ((lastP (runes s) n).length : Int)) (Or.inl D.out.1)).trans e3; have z3' := (frozen_setCell w5 ⟨p4, 0, none⟩ ⟨p3, 0, none⟩ (.int .i64 ((lastP (runes s) n).length : Int))).trans z3; have k0 := (far_cell4 w5 (p := p3) (i := 0) (q := p0) (j := 0) (.slice ad5 Q.length cc5) (Or.inl D.out.2.1)).trans (KP.out _ O5.out).1; have k1 := (far_cell4 w5 (p := p3) (i := 0) (q := p1) (j := 0) (.slice ad5 Q.length cc5) (Or.inl D.out.2.2.1)).trans (KP.out _ O5.out).2.1; have k2 := (far_cell4 w5 (p := p3) (i := 0) (q := p2) (j := 0) (.slice ad5 Q.length cc5) (Or.inl D.out.2.2.2.1)).trans (KP.out _ O5.out).2.2; have m0 := (far_cell4 (w5.setCell ⟨p3, 0, none⟩ (.slice ad5 Q.length cc5)) (p := p4) (i := 0) (q := p0) (j := 0) (.int .i64 ((lastP (runes s) n).length : Int)) (Or.inl D.out.2.2.2.2.1)).trans k0; have m1 := (far_cell4 (w5.setCell ⟨p3, 0, none⟩ (.slice ad5 Q.length cc5)) (p := p4) (i := 0) (q := p1) (j := 0) (.int .i64 ((lastP (runes s) n).length : Int)) (Or.inl D.out.2.2.2.2.2.1)).trans k1; have m2 := (far_cell4 (w5.setCell ⟨p3, 0, none⟩ (.slice ad5 Q.length cc5)) (p := p4) (i := 0) (q := p2) (j := 0) (.int .i64 ((lastP (runes s) n).length : Int)) (Or.inl D.out.2.2.2.2.2.2)).trans k2; clear o5 s5 q5 g1 g2)
      | (go_at_call 30; (with_reducible refine (do_any _ _ _ L (runes s) n _ (alloc_cell0 _ _ _) (HF.out.old ((((Old.drew w).trans (HCW.out _).1).then_alloc _))) ((HCW.out _).2.later (Old.alloc _ _)) H1.out hL NL.out SL.out).mono ?_); rintro e w5 ⟨rv, us, Q, B1, B2, rfl, o5, s5, q5, g1, g2⟩; have O5 := Lib.hid (((((Old.drew w).trans (HCW.out _).1).then_alloc _)).trans o5); have G1 := Lib.hid (Nat.le_trans (((((Old.drew w).trans (HCW.out _).1).then_alloc _))).size g1); have G2 := Lib.hid (Nat.le_trans (((((Old.drew w).trans (HCW.out _).1).then_alloc _))).size g2); have S5 := Lib.hid s5; have Q5 := Lib.hid q5; obtain ⟨ad5, cc5, rfl⟩ := s5.slice; have e3 := (O5.out.cell (o := 0) b3).trans c3; have e4 := (O5.out.cell (o := 0) b4).trans c4; have z3 := (O5.out.frozen (o := 0) b3).trans f3; have z4 := (O5.out.frozen (o := 0) b4).trans f4; have e4' := (far_cell4 w5 (p := p3) (i := 0) (q := p4) (j := 0) (.slice ad5 Q.length cc5) (Or.inl (Ne.symm D.out.1))).trans e4; have z4' := (frozen_setCell w5 ⟨p3, 0, none⟩ ⟨p4, 0, none⟩ (.slice ad5 Q.length cc5)).trans z4; have e3' := (far_cell4 w5 (p := p4) (i := 0) (q := p3) (j := 0) (.int .i64 ((lastP (runes s) n).length : Int)) (Or.inl D.out.1)).trans e3; have z3' := (frozen_setCell w5 ⟨p4, 0, none⟩ ⟨p3, 0, none⟩ (.int .i64 ((lastP (runes s) n).length : Int))).trans z3; have k0 := (far_cell4 w5 (p := p3) (i := 0) (q := p0) (j := 0) (.slice ad5 Q.length cc5) (Or.inl D.out.2.1)).trans (KP.out _ O5.out).1; have k1 := (far_cell4 w5 (p := p3) (i := 0) (q := p1) (j := 0) (.slice ad5 Q.length cc5) (Or.inl D.out.2.2.1)).trans (KP.out _ O5.out).2.1; have k2 := (far_cell4 w5 (p := p3) (i := 0) (q := p2) (j := 0) (.slice ad5 Q.length cc5) (Or.inl D.out.2.2.2.1)).trans (KP.out _ O5.out).2.2; have m0 := (far_cell4 (w5.setCell ⟨p3, 0, none⟩ (.slice ad5 Q.length cc5)) (p := p4) (i := 0) (q := p0) (j := 0) (.int .i64 ((lastP (runes s) n).length : Int)) (Or.inl D.out.2.2.2.2.1)).trans k0; have m1 := (far_cell4 (w5.setCell ⟨p3, 0, none⟩ (.slice ad5 Q.length cc5)) (p := p4) (i := 0) (q := p1) (j := 0) (.int .i64 ((lastP (runes s) n).length : Int)) (Or.inl D.out.2.2.2.2.2.1)).trans k1; have m2 := (far_cell4 (w5.setCell ⟨p3, 0, none⟩ (.slice ad5 Q.length cc5)) (p := p4) (i := 0) (q := p2) (j := 0) (.int .i64 ((lastP (runes s) n).length : Int)) (Or.inl D.out.2.2.2.2.2.2)).trans k2; clear o5 s5 q5 g1 g2)))
  (try go_wp2_with fail)
  refine hK.out _ _ ?_ (fun hHeld3 => ?_)
  · (try dsimp only)
    (first | exact ⟨c0, c1, c2⟩ | exact KP.out _ O5.out | exact KP.out _ ((Old.alloc w _).then_drew) | exact KP.out _ (((Old.alloc w _).then_drew).trans (HCW.out _).1) | exact KP.out _ (((Old.drew w).trans (HCW.out _).1).then_alloc _) | exact KP.out _ ((Old.drew w).trans (HCW.out _).1) | exact ⟨k0, k1, k2⟩ | exact ⟨m0, m1, m2⟩ | exact ⟨n0, n1, n2⟩ | go_keep)
  clear hK K hHeld2
  try simp only [Act.put, List.getElem_toArray, List.getElem_cons_succ, List.getElem_cons_zero, List.setIfInBounds_toArray, List.set_cons_zero, List.set_cons_succ]
  refine wpAnyH_take (i := 6) (v := ?_) rfl (by kernel_rfl) (by kernel_rfl) (by kernel_rfl) (fun _ _ _ h => h) (Or.inl ⟨by rfl, ?_⟩) (by assumption) ?_
  rotate_left
  · (intro w hSw; (try dsimp only at hSw); go_simp; try with_reducible rfl)
  try simp only [Act.put, List.getElem_toArray, List.getElem_cons_succ, List.getElem_cons_zero, List.setIfInBounds_toArray, List.set_cons_zero, List.set_cons_succ]
  refine wpAnyH_take (i := 7) (v := ?_) rfl (by kernel_rfl) (by kernel_rfl) (by kernel_rfl) (fun _ _ _ h => h) (Or.inl ⟨by rfl, ?_⟩) (by assumption) ?_
  rotate_left
  · (intro w hSw; (try dsimp only at hSw); go_simp; try with_reducible rfl)
  try simp only [Act.put, List.getElem_toArray, List.getElem_cons_succ, List.getElem_cons_zero, List.setIfInBounds_toArray, List.set_cons_zero, List.set_cons_succ]
  refine wpAnyH_take (i := 8) (v := ?_) rfl (by kernel_rfl) (by kernel_rfl) (by kernel_rfl) (fun _ _ _ h => h) (Or.inl ⟨by rfl, ?_⟩) (by assumption) ?_
  rotate_left
  · (intro w hSw; (try dsimp only at hSw); go_simp; try with_reducible rfl)
  try simp only [Act.put, List.getElem_toArray, List.getElem_cons_succ, List.getElem_cons_zero, List.setIfInBounds_toArray, List.set_cons_zero, List.set_cons_succ]
  refine wpAnyH_ready (rs := [9]) (by kernel_rfl) (by simp) ?_
  refine AllReadyH.cons rfl (fun K hK => ?_) AllReadyH.nil
  go_simp
  refine hK.out _ _ ?_ (fun hHeld4 => ?_)
  · (try dsimp only)
    (first | exact ⟨c0, c1, c2⟩ | exact KP.out _ O5.out | exact KP.out _ ((Old.alloc w _).then_drew) | exact KP.out _ (((Old.alloc w _).then_drew).trans (HCW.out _).1) | exact KP.out _ (((Old.drew w).trans (HCW.out _).1).then_alloc _) | exact KP.out _ ((Old.drew w).trans (HCW.out _).1) | exact ⟨k0, k1, k2⟩ | exact ⟨m0, m1, m2⟩ | exact ⟨n0, n1, n2⟩ | go_keep)
  clear hK K hHeld3
  try simp only [Act.put, List.getElem_toArray, List.getElem_cons_succ, List.getElem_cons_zero, List.setIfInBounds_toArray, List.set_cons_zero, List.set_cons_succ]
  refine wpAnyH_ready (rs := [10]) (by kernel_rfl) (by simp) ?_
  refine AllReadyH.cons rfl (fun K hK => ?_) AllReadyH.nil
  go_simp
  refine hK.out _ _ ?_ (fun hHeld5 => ?_)
  · (try dsimp only)
    (first | exact ⟨c0, c1, c2⟩ | exact KP.out _ O5.out | exact KP.out _ ((Old.alloc w _).then_drew) | exact KP.out _ (((Old.alloc w _).then_drew).trans (HCW.out _).1) | exact KP.out _ (((Old.drew w).trans (HCW.out _).1).then_alloc _) | exact KP.out _ ((Old.drew w).trans (HCW.out _).1) | exact ⟨k0, k1, k2⟩ | exact ⟨m0, m1, m2⟩ | exact ⟨n0, n1, n2⟩ | go_keep)
  clear hK K hHeld4
  try simp only [Act.put, List.getElem_toArray, List.getElem_cons_succ, List.getElem_cons_zero, List.setIfInBounds_toArray, List.set_cons_zero, List.set_cons_succ]
  refine wpAnyH_done (by kernel_rfl) ?_ _
  refine NoPanic.normal ?_
  rotate_left 1
  go_simp
  refine hK.out _ _ ?_ (fun hHeld1 => ?_)
  · (try dsimp only)
    (first | exact ⟨c0, c1, c2⟩ | exact KP.out _ O5.out | exact KP.out _ ((Old.alloc w _).then_drew) | exact KP.out _ (((Old.alloc w _).then_drew).trans (HCW.out _).1) | exact KP.out _ (((Old.drew w).trans (HCW.out _).1).then_alloc _) | exact KP.out _ ((Old.drew w).trans (HCW.out _).1) | exact ⟨k0, k1, k2⟩ | exact ⟨m0, m1, m2⟩ | exact ⟨n0, n1, n2⟩ | go_keep)
  clear hK K hHeld0
  try simp only [Act.put, List.getElem_toArray, List.getElem_cons_succ, List.getElem_cons_zero, List.setIfInBounds_toArray, List.set_cons_zero, List.set_cons_succ]
  refine wpAnyH_ready (rs := [1]) (by kernel_rfl) (by simp) ?_
  refine AllReadyH.cons rfl (fun K hK => ?_) AllReadyH.nil
  go_simp
  ((first
      | (go_at_call 29; refine (segs_any _ _ ⟨_, _, _, rfl⟩).mono ?_; rintro e w2 ⟨rfl, rfl⟩)
      | (go_at_call 30; (with_reducible refine (do_any w.heap.size _ _ L (runes s) n _ (((HCW.out _).1.cell (by simp)).trans (alloc_celld _ _ _)) (HF.out.old (((Old.alloc w _).then_drew).trans (HCW.out _).1)) (HCW.out _).2 H1.out hL NL.out SL.out).mono ?_); rintro e w5 ⟨rv, us, Q, B1, B2, rfl, o5, s5, q5, g1, g2⟩; have O5 := Lib.hid ((((Old.alloc w _).then_drew).trans (HCW.out _).1).trans o5); have G1 := Lib.hid (Nat.le_trans ((((Old.alloc w _).then_drew).trans (HCW.out _).1)).size g1); have G2 := Lib.hid (Nat.le_trans ((((Old.alloc w _).then_drew).trans (HCW.out _).1)).size g2); have S5 := Lib.hid s5; have Q5 := Lib.hid q5; obtain ⟨ad5, cc5, rfl⟩ := s5.slice; have e3 := (O5.out.cell (o := 0) b3).trans c3; have e4 := (O5.out.cell (o := 0) b4).trans c4; have z3 := (O5.out.frozen (o := 0) b3).trans f3; have z4 := (O5.out.frozen (o := 0) b4).trans f4; have e4' := (far_cell4 w5 (p := p3) (i := 0) (q := p4) (j := 0) (.slice ad5 Q.length cc5) (Or.inl (Ne.symm D.out.1))).trans e4; have z4' := (frozen_setCell w5 ⟨p3, 0, none⟩ ⟨p4, 0, none⟩ (.slice ad5 Q.length cc5)).trans z4; have e3' := (far_cell4 w5 (p := p4) (i := 0) (q := p3) (j := 0) (.int .i64 ((lastP (runes s) n).length : Int)) (Or.inl D.out.1)).trans e3; have z3' := (frozen_setCell w5 ⟨p4, 0, none⟩ ⟨p3, 0, none⟩ (.int .i64 ((lastP (runes s) n).length : Int))).trans z3; have k0 := (far_cell4 w5 (p := p3) (i := 0) (q := p0) (j := 0) (.slice ad5 Q.length cc5) (Or.inl D.out.2.1)).trans (KP.out _ O5.out).1; have k1 := (far_cell4 w5 (p := p3) (i := 0) (q := p1) (j := 0) (.slice ad5 Q.length cc5) (Or.inl D.out.2.2.1)).trans (KP.out _ O5.out).2.1; have k2 := (far_cell4 w5 (p := p3) (i := 0) (q := p2) (j := 0) (.slice ad5 Q.length cc5) (Or.inl D.out.2.2.2.1)).trans (KP.out _ O5.out).2.2; have m0 := (far_cell4 (w5.setCell ⟨p3, 0, none⟩ (.slice ad5 Q.length cc5)) (p := p4) (i := 0) (q := p0) (j := 0) (.int .i64 ((lastP (runes s) n).length : Int)) (Or.inl D.out.2.2.2.2.1)).trans k0; have m1 := (far_cell4 (w5.setCell ⟨p3, 0, none⟩ (.slice ad5 Q.length cc5)) (p := p4) (i := 0) (q := p1) (j := 0) (.int .i64 ((lastP (runes s) n).length : Int)) (Or.inl D.out.2.2.2.2.2.1)).trans k1; have m2 := (far_cell4 (w5.setCell ⟨p3, 0, none⟩ (.slice ad5 Q.length cc5)) (p := p4) (i := 0) (q := p2) (j := 0) (.int .i64 ((lastP (runes s) n).length : Int)) (Or.inl D.out.2.2.2.2.2.2)).trans k2; clear o5 s5 q5 g1 g2)
      | (go_at_call 30; (with_reducible refine (do_any _ _ _ L (runes s) n _ (alloc_cell0 _ _ _) (HF.out.old ((((Old.drew w).trans (HCW.out _).1).then_alloc _))) ((HCW.out _).2.later (Old.alloc _ _)) H1.out hL NL.out SL.out).mono ?_); rintro e w5 ⟨rv, us, Q, B1, B2, rfl, o5, s5, q5, g1, g2⟩; have O5 := Lib.hid (((((Old.drew w).trans (HCW.out _).1).then_alloc _)).trans o5); have G1 := Lib.hid (Nat.le_trans (((((Old.drew w).trans (HCW.out _).1).then_alloc _))).size g1); have G2 := Lib.hid (Nat.le_trans (((((Old.drew w).trans (HCW.out _).1).then_alloc _))).size g2); have S5 := Lib.hid s5; have Q5 := Lib.hid q5; obtain ⟨ad5, cc5, rfl⟩ := s5.slice; have e3 := (O5.out.cell (o := 0) b3).trans c3; have e4 := (O5.out.cell (o := 0) b4).trans c4; have z3 := (O5.out.frozen (o := 0) b3).trans f3; have z4 := (O5.out.frozen (o := 0) b4).trans f4; have e4' := (far_cell4 w5 (p := p3) (i := 0) (q := p4) (j := 0) (.slice ad5 Q.length cc5) (Or.inl (Ne.symm D.out.1))).trans e4; have z4' := (frozen_setCell w5 ⟨p3, 0, none⟩ ⟨p4, 0, none⟩ (.slice ad5 Q.length cc5)).trans z4; have e3' := (far_cell4 w5 (p := p4) (i := 0) (q := p3) (j := 0) (.int .i64 ((lastP (runes s) n).length : Int)) (Or.inl D.out.1)).trans e3; have z3' := (frozen_setCell w5 ⟨p4, 0, none⟩ ⟨p3, 0, none⟩ (.int .i64 ((lastP (runes s) n).length : Int))).trans z3; have k0 := (far_cell4 w5 (p := p3) (i := 0) (q := p0) (j := 0) (.slice ad5 Q.length cc5) (Or.inl D.out.2.1)).trans (KP.out _ O5.out).1; have k1 := (far_cell4 w5 (p := p3) (i := 0) (q := p1) (j := 0) (.slice ad5 Q.length cc5) (Or.inl D.out.2.2.1)).trans (KP.out _ O5.out).2.1; have k2 := (far_cell4 w5 (p := p3) (i := 0) (q := p2) (j := 0) (.slice ad5 Q.length cc5) (Or.inl D.out.2.2.2.1)).trans (KP.out _ O5.out).2.2; have m0 := (far_cell4 (w5.setCell ⟨p3, 0, none⟩ (.slice ad5 Q.length cc5)) (p := p4) (i := 0) (q := p0) (j := 0) (.int .i64 ((lastP (runes s) n).length : Int)) (Or.inl D.out.2.2.2.2.1)).trans k0; have m1 := (far_cell4 (w5.setCell ⟨p3, 0, none⟩ (.slice ad5 Q.length cc5)) (p := p4) (i := 0) (q := p1) (j := 0) (.int .i64 ((lastP (runes s) n).length : Int)) (Or.inl D.out.2.2.2.2.2.1)).trans k1; have m2 := (far_cell4 (w5.setCell ⟨p3, 0, none⟩ (.slice ad5 Q.length cc5)) (p := p4) (i := 0) (q := p2) (j := 0) (.int .i64 ((lastP (runes s) n).length : Int)) (Or.inl D.out.2.2.2.2.2.2)).trans k2; clear o5 s5 q5 g1 g2)))
  (try go_wp2_with fail)
  refine hK.out _ _ ?_ (fun hHeld2 => ?_)
  · (try dsimp only)
    (first | exact ⟨c0, c1, c2⟩ | exact KP.out _ O5.out | exact KP.out _ ((Old.alloc w _).then_drew) | exact KP.out _ (((Old.alloc w _).then_drew).trans (HCW.out _).1) | exact KP.out _ (((Old.drew w).trans (HCW.out _).1).then_alloc _) | exact KP.out _ ((Old.drew w).trans (HCW.out _).1) | exact ⟨k0, k1, k2⟩ | exact ⟨m0, m1, m2⟩ | exact ⟨n0, n1, n2⟩ | go_keep)
  clear hK K hHeld1
  try simp only [Act.put, List.getElem_toArray, List.getElem_cons_succ, List.getElem_cons_zero, List.setIfInBounds_toArray, List.set_cons_zero, List.set_cons_succ]
  refine wpAnyH_ready (rs := [5]) (by kernel_rfl) (by simp) ?_
  refine AllReadyH.cons rfl (fun K hK => ?_) AllReadyH.nil
  go_simp
  ((first
      | (go_at_call 29; refine (segs_any _ _ ⟨_, _, _, rfl⟩).mono ?_; rintro e w2 ⟨rfl, rfl⟩)
      | (go_at_call 30; (with_reducible refine (do_any w.heap.size _ _ L (runes s) n _ (((HCW.out _).1.cell (by simp)).trans (alloc_celld _ _ _)) (HF.out.old (((Old.alloc w _).then_drew).trans (HCW.out _).1)) (HCW.out _).2 H1.out hL NL.out SL.out).mono ?_); rintro e w5 ⟨rv, us, Q, B1, B2, rfl, o5, s5, q5, g1, g2⟩; have O5 := Lib.hid ((((Old.alloc w _).then_drew).trans (HCW.out _).1).trans o5); have G1 := Lib.hid (Nat.le_trans ((((Old.alloc w _).then_drew).trans (HCW.out _).1)).size g1); have G2 := Lib.hid (Nat.le_trans ((((Old.alloc w _).then_drew).trans (HCW.out _).1)).size g2); have S5 := Lib.hid s5; have Q5 := Lib.hid q5; obtain ⟨ad5, cc5, rfl⟩ := s5.slice; have e3 := (O5.out.cell (o := 0) b3).trans c3; have e4 := (O5.out.cell (o := 0) b4).trans c4; have z3 := (O5.out.frozen (o := 0) b3).trans f3; have z4 := (O5.out.frozen (o := 0) b4).trans f4; have e4' := (far_cell4 w5 (p := p3) (i := 0) (q := p4) (j := 0) (.slice ad5 Q.length cc5) (Or.inl (Ne.symm D.out.1))).trans e4; have z4' := (frozen_setCell w5 ⟨p3, 0, none⟩ ⟨p4, 0, none⟩ (.slice ad5 Q.length cc5)).trans z4; have e3' := (far_cell4 w5 (p := p4) (i := 0) (q := p3) (j := 0) (.int .i64 ((lastP (runes s) n).length : Int)) (Or.inl D.out.1)).trans e3; have z3' := (frozen_setCell w5 ⟨p4, 0, none⟩ ⟨p3, 0, none⟩ (.int .i64 ((lastP (runes s) n).length : Int))).trans z3; have k0 := (far_cell4 w5 (p := p3) (i := 0) (q := p0) (j := 0) (.slice ad5 Q.length cc5) (Or.inl D.out.2.1)).trans (KP.out _ O5.out).1; have k1 := (far_cell4 w5 (p := p3) (i := 0) (q := p1) (j := 0) (.slice ad5 Q.length cc5) (Or.inl D.out.2.2.1)).trans (KP.out _ O5.out).2.1; have k2 := (far_cell4 w5 (p := p3) (i := 0) (q := p2) (j := 0) (.slice ad5 Q.length cc5) (Or.inl D.out.2.2.2.1)).trans (KP.out _ O5.out).2.2; have m0 := (far_cell4 (w5.setCell ⟨p3, 0, none⟩ (.slice ad5 Q.length cc5)) (p := p4) (i := 0) (q := p0) (j := 0) (.int .i64 ((lastP (runes s) n).length : Int)) (Or.inl D.out.2.2.2.2.1)).trans k0; have m1 := (far_cell4 (w5.setCell ⟨p3, 0, none⟩ (.slice ad5 Q.length cc5)) (p := p4) (i := 0) (q := p1) (j := 0) (.int .i64 ((lastP (runes s) n).length : Int)) (Or.inl D.out.2.2.2.2.2.1)).trans k1; have m2 := (far_cell4 (w5.setCell ⟨p3, 0, none⟩ (.slice ad5 Q.length cc5)) (p := p4) (i := 0) (q := p2) (j := 0) (.int .i64 ((lastP (runes s) n).length : Int)) (Or.inl D.out.2.2.2.2.2.2)).trans k2; clear o5 s5 q5 g1 g2)
      | (go_at_call 30; (with_reducible refine (do_any _ _ _ L (runes s) n _ (alloc_cell0 _ _ _) (HF.out.old ((((Old.drew w).trans (HCW.out _).1).then_alloc _))) ((HCW.out _).2.later (Old.alloc _ _)) H1.out hL NL.out SL.out).mono ?_); rintro e w5 ⟨rv, us, Q, B1, B2, rfl, o5, s5, q5, g1, g2⟩; have O5 := Lib.hid (((((Old.drew w).trans (HCW.out _).1).then_alloc _)).trans o5); have G1 := Lib.hid (Nat.le_trans (((((Old.drew w).trans (HCW.out _).1).then_alloc _))).size g1); have G2 := Lib.hid (Nat.le_trans (((((Old.drew w).trans (HCW.out _).1).then_alloc _))).size g2); have S5 := Lib.hid s5; have Q5 := Lib.hid q5; obtain ⟨ad5, cc5, rfl⟩ := s5.slice; have e3 := (O5.out.cell (o := 0) b3).trans c3; have e4 := (O5.out.cell (o := 0) b4).trans c4; have z3 := (O5.out.frozen (o := 0) b3).trans f3; have z4 := (O5.out.frozen (o := 0) b4).trans f4; have e4' := (far_cell4 w5 (p := p3) (i := 0) (q := p4) (j := 0) (.slice ad5 Q.length cc5) (Or.inl (Ne.symm D.out.1))).trans e4; have z4' := (frozen_setCell w5 ⟨p3, 0, none⟩ ⟨p4, 0, none⟩ (.slice ad5 Q.length cc5)).trans z4; have e3' := (far_cell4 w5 (p := p4) (i := 0) (q := p3) (j := 0) (.int .i64 ((lastP (runes s) n).length : Int)) (Or.inl D.out.1)).trans e3; have z3' := (frozen_setCell w5 ⟨p4, 0, none⟩ ⟨p3, 0, none⟩ (.int .i64 ((lastP (runes s) n).length : Int))).trans z3; have k0 := (far_cell4 w5 (p := p3) (i := 0) (q := p0) (j := 0) (.slice ad5 Q.length cc5) (Or.inl D.out.2.1)).trans (KP.out _ O5.out).1; have k1 := (far_cell4 w5 (p := p3) (i := 0) (q := p1) (j := 0) (.slice ad5 Q.length cc5) (Or.inl D.out.2.2.1)).trans (KP.out _ O5.out).2.1; have k2 := (far_cell4 w5 (p := p3) (i := 0) (q := p2) (j := 0) (.slice ad5 Q.length cc5) (Or.inl D.out.2.2.2.1)).trans (KP.out _ O5.out).2.2; have m0 := (far_cell4 (w5.setCell ⟨p3, 0, none⟩ (.slice ad5 Q.length cc5)) (p := p4) (i := 0) (q := p0) (j := 0) (.int .i64 ((lastP (runes s) n).length : Int)) (Or.inl D.out.2.2.2.2.1)).trans k0; have m1 := (far_cell4 (w5.setCell ⟨p3, 0, none⟩ (.slice ad5 Q.length cc5)) (p := p4) (i := 0) (q := p1) (j := 0) (.int .i64 ((lastP (runes s) n).length : Int)) (Or.inl D.out.2.2.2.2.2.1)).trans k1; have m2 := (far_cell4 (w5.setCell ⟨p3, 0, none⟩ (.slice ad5 Q.length cc5)) (p := p4) (i := 0) (q := p2) (j := 0) (.int .i64 ((lastP (runes s) n).length : Int)) (Or.inl D.out.2.2.2.2.2.2)).trans k2; clear o5 s5 q5 g1 g2)))
  (try go_wp2_with fail)
  refine hK.out _ _ ?_ (fun hHeld3 => ?_)
  · (try dsimp only)
    (first | exact ⟨c0, c1, c2⟩ | exact KP.out _ O5.out | exact KP.out _ ((Old.alloc w _).then_drew) | exact KP.out _ (((Old.alloc w _).then_drew).trans (HCW.out _).1) | exact KP.out _ (((Old.drew w).trans (HCW.out _).1).then_alloc _) | exact KP.out _ ((Old.drew w).trans (HCW.out _).1) | exact ⟨k0, k1, k2⟩ | exact ⟨m0, m1, m2⟩ | exact ⟨n0, n1, n2⟩ | go_keep)
  clear hK K hHeld2
  try simp only [Act.put, List.getElem_toArray, List.getElem_cons_succ, List.getElem_cons_zero, List.setIfInBounds_toArray, List.set_cons_zero, List.set_cons_succ]
  refine wpAnyH_take (i := 6) (v := ?_) rfl (by kernel_rfl) (by kernel_rfl) (by kernel_rfl) (fun _ _ _ h => h) (Or.inl ⟨by rfl, ?_⟩) (by assumption) ?_
  rotate_left
  · (intro w hSw; (try dsimp only at hSw); go_simp; try with_reducible rfl)
  try simp only [Act.put, List.getElem_toArray, List.getElem_cons_succ, List.getElem_cons_zero, List.setIfInBounds_toArray, List.set_cons_zero, List.set_cons_succ]
  refine wpAnyH_take (i := 7) (v := ?_) rfl (by kernel_rfl) (by kernel_rfl) (by kernel_rfl) (fun _ _ _ h => h) (Or.inl ⟨by rfl, ?_⟩) (by assumption) ?_
  rotate_left
  · (intro w hSw; (try dsimp only at hSw); go_simp; try with_reducible rfl)
  try simp only [Act.put, List.getElem_toArray, List.getElem_cons_succ, List.getElem_cons_zero, List.setIfInBounds_toArray, List.set_cons_zero, List.set_cons_succ]
  refine wpAnyH_take (i := 8) (v := ?_) rfl (by kernel_rfl) (by kernel_rfl) (by kernel_rfl) (fun _ _ _ h => h) (Or.inl ⟨by rfl, ?_⟩) (by assumption) ?_
  rotate_left
  · (intro w hSw; (try dsimp only at hSw); go_simp; try with_reducible rfl)
  try simp only [Act.put, List.getElem_toArray, List.getElem_cons_succ, List.getElem_cons_zero, List.setIfInBounds_toArray, List.set_cons_zero, List.set_cons_succ]
  refine wpAnyH_ready (rs := [9]) (by kernel_rfl) (by simp) ?_
  refine AllReadyH.cons rfl (fun K hK => ?_) AllReadyH.nil
  go_simp
  refine hK.out _ _ ?_ (fun hHeld4 => ?_)
  · (try dsimp only)
    (first | exact ⟨c0, c1, c2⟩ | exact KP.out _ O5.out | exact KP.out _ ((Old.alloc w _).then_drew) | exact KP.out _ (((Old.alloc w _).then_drew).trans (HCW.out _).1) | exact KP.out _ (((Old.drew w).trans (HCW.out _).1).then_alloc _) | exact KP.out _ ((Old.drew w).trans (HCW.out _).1) | exact ⟨k0, k1, k2⟩ | exact ⟨m0, m1, m2⟩ | exact ⟨n0, n1, n2⟩ | go_keep)
  clear hK K hHeld3
  try simp only [Act.put, List.getElem_toArray, List.getElem_cons_succ, List.getElem_cons_zero, List.setIfInBounds_toArray, List.set_cons_zero, List.set_cons_succ]
  refine wpAnyH_ready (rs := [10]) (by kernel_rfl) (by simp) ?_
  refine AllReadyH.cons rfl (fun K hK => ?_) AllReadyH.nil
  go_simp
  refine hK.out _ _ ?_ (fun hHeld5 => ?_)
  · (try dsimp only)
    (first | exact ⟨c0, c1, c2⟩ | exact KP.out _ O5.out | exact KP.out _ ((Old.alloc w _).then_drew) | exact KP.out _ (((Old.alloc w _).then_drew).trans (HCW.out _).1) | exact KP.out _ (((Old.drew w).trans (HCW.out _).1).then_alloc _) | exact KP.out _ ((Old.drew w).trans (HCW.out _).1) | exact ⟨k0, k1, k2⟩ | exact ⟨m0, m1, m2⟩ | exact ⟨n0, n1, n2⟩ | go_keep)
  clear hK K hHeld4
  try simp only [Act.put, List.getElem_toArray, List.getElem_cons_succ, List.getElem_cons_zero, List.setIfInBounds_toArray, List.set_cons_zero, List.set_cons_succ]
  refine wpAnyH_done (by kernel_rfl) ?_ _
  refine NoPanic.normal ?_
  rotate_left 1
  all_goals
    go_wp2_with fail
    go_end0
    exact ⟨rfl, w5, _, us, Q, B1, B2, O5.out, S5.out, by rw [← HR.out]; exact Q5.out, G1.out, G2.out, by rw [HR.out]⟩
end Go.Proofs.YtalkikljjffpmaaDoor
