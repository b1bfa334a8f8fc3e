/- impl.Completed: its closure (printed by mkcmp3.py). -/
import Derived.Test.YtalkikljjffpmaaDoorDeepT
import Derived.Test.YtalkikljjffpmaaDoorSeg3
namespace Go.Proofs.YtalkikljjffpmaaDoor
open Go.RowKit
set_option linter.unusedVariables false
set_option linter.unusedSimpArgs false
set_option linter.unnecessarySimpa false
set_option maxRecDepth 100000

theorem conv_fun2 (s : ByteArray) (h : s.size ≤ 70368744177664) : ∃ (cb cc : World → Nat) (cw : World → World), (∀ W, (convert 9 58 (.string s)).run Tryd.prog W = .ok (.slice (some ⟨cb W, 0, none⟩) (runes s).length (cc W)) (cw W)) ∧ ∀ W, Old W (cw W) ∧ RunesAt (cw W) (.slice (some ⟨cb W, 0, none⟩) (runes s).length (cc W)) (runes s) := by
  have H : ∀ W, ∃ b c w', (convert 9 58 (.string s)).run Tryd.prog W = .ok (.slice (some ⟨b, 0, none⟩) (runes s).length c) w' ∧ Old W w' ∧ RunesAt w' (.slice (some ⟨b, 0, none⟩) (runes s).length c) (runes s) := fun W => by
    obtain ⟨v, w', h1, h2, h3, ⟨b, c, rfl⟩, -⟩ := conv_runes (P := Tryd.prog) W 9 58 21 s (by kernel_rfl) (by kernel_rfl) (by kernel_rfl) h
    exact ⟨b, c, w', h1, h2, h3⟩
  exact ⟨fun W => (H W).choose, fun W => (H W).choose_spec.choose, fun W => (H W).choose_spec.choose_spec.choose, fun W => (H W).choose_spec.choose_spec.choose_spec.1, fun W => (H W).choose_spec.choose_spec.choose_spec.2⟩
def CmpEnd (p3 p4 : Nat) (A : List (List Int)) (pg : List Int) (w : World) (e : Ending) (w' : World) : Prop := e = .returned (.tuple #[]) ∧ ∃ w1 ov off us Q B, Old w w1 ∧ w.heap.size ≤ B ∧ SegJ w1 B ov us Q ∧ Q.map Prod.fst = outS A pg ∧ off = (if outS A pg = [] then 0 else pg.length) ∧ w' = (w1.setCell ⟨p3, 0, none⟩ ov).setCell ⟨p4, 0, none⟩ (.int .i64 ((off : Nat) : Int))
set_option maxHeartbeats 1000000 in
theorem cmpc_any (p0 p1 p2 p3 p4 n0 fc : Nat) (ad : Option Addr) (x3 : Value) (i4 : Int) (A : List (List Int)) (pg : List Int) (s : ByteArray) (w : World) (c0 : w.cell? ⟨p0, 0, none⟩ = some (.slice ad n0 fc)) (c1 : w.cell? ⟨p1, 0, none⟩ = some (.string s)) (c2 : w.cell? ⟨p2, 0, none⟩ = some (.int .i64 ((runes s).length : Nat))) (c3 : w.cell? ⟨p3, 0, none⟩ = some x3) (c4 : w.cell? ⟨p4, 0, none⟩ = some (.int .i64 i4))
    (f3 : w.frozen? ⟨p3, 0, none⟩ = false) (f4 : w.frozen? ⟨p4, 0, none⟩ = false) (hs : s.size ≤ 1000)
    (hdo : ∀ p lb lc W, Old w W → W.cell? ⟨p, 3, none⟩ = some (.slice ad n0 fc) → RunesAt W (.slice (some ⟨lb, 0, none⟩) (runes s).length lc) (runes s) → Calls Tryd.prog 35 #[.pointer (some ⟨p, 0, none⟩), .slice (some ⟨lb, 0, none⟩) (runes s).length lc, .int .i64 ((runes s).length : Nat)] W (DPost (LeafR A pg W)))
    (d34 : p3 ≠ p4) (d03 : p0 ≠ p3) (d13 : p1 ≠ p3) (d23 : p2 ≠ p3) (d04 : p0 ≠ p4) (d14 : p1 ≠ p4) (d24 : p2 ≠ p4) :
    Calls Tryd.prog 33 #[.pointer (some ⟨p0, 0, none⟩), .pointer (some ⟨p1, 0, none⟩), .pointer (some ⟨p2, 0, none⟩), .pointer (some ⟨p3, 0, none⟩), .pointer (some ⟨p4, 0, none⟩)] w (CmpEnd p3 p4 A pg w) := by
  obtain ⟨cb, cc, cw, hcv, hcw⟩ := conv_fun2 s (by omega)
  have HCW := Lib.hid hcw
  have HDO := Lib.hid hdo
  have C0 := Lib.hid c0
  have C1 := Lib.hid c1
  have C2 := Lib.hid c2
  have b0 := World.block_lt_of_cell? w _ c0
  have b1 := World.block_lt_of_cell? w _ c1
  have b2 := World.block_lt_of_cell? w _ c2
  have b3 := World.block_lt_of_cell? w _ c3
  have b4 := World.block_lt_of_cell? w _ c4
  have D := Lib.hid (And.intro d34 (And.intro d03 (And.intro d13 (And.intro d23 (And.intro d04 (And.intro d14 d24))))))
  have KP : Hid (∀ W', Old w W' → W'.cell? ⟨p0, 0, none⟩ = some (.slice ad n0 fc) ∧ W'.cell? ⟨p1, 0, none⟩ = some (.string s) ∧ W'.cell? ⟨p2, 0, none⟩ = some (.int .i64 ((runes s).length : Nat))) := fun W' o => ⟨(o.cell b0).trans C0.out, (o.cell b1).trans C1.out, (o.cell b2).trans C2.out⟩
  clear hcw hdo d34 d03 d13 d23 d04 d14 d24
  go_enter Tryd.func33, Tryd.ntmps33
  go_wp2_with fail
  refine wp_region_noPanic ?_
  refine wp_region_held_drew (S := (fun w' => w'.cell? ⟨p0, 0, none⟩ = some (.slice ad n0 fc) ∧ w'.cell? ⟨p1, 0, none⟩ = some (.string s) ∧ w'.cell? ⟨p2, 0, none⟩ = some (.int .i64 ((runes s).length : Nat)))) (by kernel_rfl) (by (try dsimp only); (first | exact ⟨c0, c1, c2⟩ | exact KP.out _ O5.out | exact KP.out _ O2.out | exact KP.out _ (O2.out.trans (HCW.out _).1) | exact KP.out _ ((Old.drew w).trans (HCW.out _).1) | exact ⟨k0, k1, k2⟩ | exact ⟨m0, m1, m2⟩ | go_keep)) (fun hHeld0 => ?_)
  refine wpAnyH_take (i := 0) (v := ?_) rfl (by kernel_rfl) (by kernel_rfl) (by kernel_rfl) (fun _ _ _ h => h) (Or.inl ⟨by rfl, ?_⟩) (by assumption) ?_
  rotate_left
  · (intro w hSw; (try dsimp only at hSw); go_simp; try with_reducible rfl)
  try simp only [Act.put, List.getElem_toArray, List.getElem_cons_succ, List.getElem_cons_zero, List.setIfInBounds_toArray, List.set_cons_zero, List.set_cons_succ]
  refine wpAnyH_take (i := 2) (v := ?_) rfl (by kernel_rfl) (by kernel_rfl) (by kernel_rfl) (fun _ _ _ h => h) (Or.inl ⟨by rfl, ?_⟩) (by assumption) ?_
  rotate_left
  · (intro w hSw; (try dsimp only at hSw); go_simp; try with_reducible rfl)
  try simp only [Act.put, List.getElem_toArray, List.getElem_cons_succ, List.getElem_cons_zero, List.setIfInBounds_toArray, List.set_cons_zero, List.set_cons_succ]
  refine wpAnyH_take (i := 4) (v := ?_) rfl (by kernel_rfl) (by kernel_rfl) (by kernel_rfl) (fun _ _ _ h => h) (Or.inl ⟨by rfl, ?_⟩) (by assumption) ?_
  rotate_left
  · (intro w hSw; (try dsimp only at hSw); go_simp; try with_reducible rfl)
  try simp only [Act.put, List.getElem_toArray, List.getElem_cons_succ, List.getElem_cons_zero, List.setIfInBounds_toArray, List.set_cons_zero, List.set_cons_succ]
  refine wpAnyH_ready (rs := [1, 3]) (by kernel_rfl) (by simp) ?_
  refine AllReadyH.cons rfl (fun K hK => ?_) (AllReadyH.cons rfl (fun K hK => ?_) AllReadyH.nil)
  go_simp
  ((first
      | (go_at_call 34; refine (npc_any ad n0 fc _).mono ?_; rintro e w2 ⟨p5, ns5, fv5, b5, rfl, o2, h2, -, -, -⟩; (first | have O2 := Lib.hid ((Old.drew w).trans o2) | (have O2 := Lib.hid (((Old.drew w).trans (HCW.out w.drew).1).trans o2); have OCW := Lib.hid o2)); have H2 := Lib.hid (((bcell4 h2 3).trans rfl : w2.cell? ⟨p5, 3, none⟩ = some (.slice ad n0 fc))); clear o2 h2)
      | (go_at_call 35; (with_reducible refine (HDO.out p5 (cb w2) (cc w2) (cw w2) (O2.out.trans (HCW.out _).1) (((HCW.out w2).1.cell (o := 3) (World.block_lt_of_cell? w2 _ H2.out)).trans H2.out) (HCW.out w2).2).mono ?_); rintro e w5 ⟨ov, off, rfl, us, Q, B, o5, g5, s5, q5, f5⟩; have O5 := Lib.hid ((O2.out.trans (HCW.out _).1).trans o5); have G5 := Lib.hid (Nat.le_trans ((O2.out.trans (HCW.out _).1)).size g5); have S5 := Lib.hid s5; have Q5 := Lib.hid q5; have F5 := Lib.hid f5; obtain ⟨ad5, cc5, rfl⟩ := s5.slice; have e3 := (O5.out.cell (o := 0) b3).trans c3; have e4 := (O5.out.cell (o := 0) b4).trans c4; have z3 := (O5.out.frozen (o := 0) b3).trans f3; have z4 := (O5.out.frozen (o := 0) b4).trans f4; have e4' := (far_cell4 w5 (p := p3) (i := 0) (q := p4) (j := 0) (.slice ad5 Q.length cc5) (Or.inl (Ne.symm D.out.1))).trans e4; have z4' := (frozen_setCell w5 ⟨p3, 0, none⟩ ⟨p4, 0, none⟩ (.slice ad5 Q.length cc5)).trans z4; have e3' := (far_cell4 w5 (p := p4) (i := 0) (q := p3) (j := 0) (.int .i64 ((off : Nat) : Int)) (Or.inl D.out.1)).trans e3; have z3' := (frozen_setCell w5 ⟨p4, 0, none⟩ ⟨p3, 0, none⟩ (.int .i64 ((off : Nat) : Int))).trans z3; have k0 := (far_cell4 w5 (p := p3) (i := 0) (q := p0) (j := 0) (.slice ad5 Q.length cc5) (Or.inl D.out.2.1)).trans (KP.out _ O5.out).1; have k1 := (far_cell4 w5 (p := p3) (i := 0) (q := p1) (j := 0) (.slice ad5 Q.length cc5) (Or.inl D.out.2.2.1)).trans (KP.out _ O5.out).2.1; have k2 := (far_cell4 w5 (p := p3) (i := 0) (q := p2) (j := 0) (.slice ad5 Q.length cc5) (Or.inl D.out.2.2.2.1)).trans (KP.out _ O5.out).2.2; have m0 := (far_cell4 (w5.setCell ⟨p3, 0, none⟩ (.slice ad5 Q.length cc5)) (p := p4) (i := 0) (q := p0) (j := 0) (.int .i64 ((off : Nat) : Int)) (Or.inl D.out.2.2.2.2.1)).trans k0; have m1 := (far_cell4 (w5.setCell ⟨p3, 0, none⟩ (.slice ad5 Q.length cc5)) (p := p4) (i := 0) (q := p1) (j := 0) (.int .i64 ((off : Nat) : Int)) (Or.inl D.out.2.2.2.2.2.1)).trans k1; have m2 := (far_cell4 (w5.setCell ⟨p3, 0, none⟩ (.slice ad5 Q.length cc5)) (p := p4) (i := 0) (q := p2) (j := 0) (.int .i64 ((off : Nat) : Int)) (Or.inl D.out.2.2.2.2.2.2)).trans k2; clear o5 s5 q5 g5 f5)
      | (go_at_call 35; (with_reducible refine (HDO.out p5 (cb w.drew) (cc w.drew) w2 O2.out H2.out (RunesAt.later OCW.out (HCW.out w.drew).2)).mono ?_); rintro e w5 ⟨ov, off, rfl, us, Q, B, o5, g5, s5, q5, f5⟩; have O5 := Lib.hid (O2.out.trans o5); have G5 := Lib.hid (Nat.le_trans (O2.out).size g5); have S5 := Lib.hid s5; have Q5 := Lib.hid q5; have F5 := Lib.hid f5; obtain ⟨ad5, cc5, rfl⟩ := s5.slice; have e3 := (O5.out.cell (o := 0) b3).trans c3; have e4 := (O5.out.cell (o := 0) b4).trans c4; have z3 := (O5.out.frozen (o := 0) b3).trans f3; have z4 := (O5.out.frozen (o := 0) b4).trans f4; have e4' := (far_cell4 w5 (p := p3) (i := 0) (q := p4) (j := 0) (.slice ad5 Q.length cc5) (Or.inl (Ne.symm D.out.1))).trans e4; have z4' := (frozen_setCell w5 ⟨p3, 0, none⟩ ⟨p4, 0, none⟩ (.slice ad5 Q.length cc5)).trans z4; have e3' := (far_cell4 w5 (p := p4) (i := 0) (q := p3) (j := 0) (.int .i64 ((off : Nat) : Int)) (Or.inl D.out.1)).trans e3; have z3' := (frozen_setCell w5 ⟨p4, 0, none⟩ ⟨p3, 0, none⟩ (.int .i64 ((off : Nat) : Int))).trans z3; have k0 := (far_cell4 w5 (p := p3) (i := 0) (q := p0) (j := 0) (.slice ad5 Q.length cc5) (Or.inl D.out.2.1)).trans (KP.out _ O5.out).1; have k1 := (far_cell4 w5 (p := p3) (i := 0) (q := p1) (j := 0) (.slice ad5 Q.length cc5) (Or.inl D.out.2.2.1)).trans (KP.out _ O5.out).2.1; have k2 := (far_cell4 w5 (p := p3) (i := 0) (q := p2) (j := 0) (.slice ad5 Q.length cc5) (Or.inl D.out.2.2.2.1)).trans (KP.out _ O5.out).2.2; have m0 := (far_cell4 (w5.setCell ⟨p3, 0, none⟩ (.slice ad5 Q.length cc5)) (p := p4) (i := 0) (q := p0) (j := 0) (.int .i64 ((off : Nat) : Int)) (Or.inl D.out.2.2.2.2.1)).trans k0; have m1 := (far_cell4 (w5.setCell ⟨p3, 0, none⟩ (.slice ad5 Q.length cc5)) (p := p4) (i := 0) (q := p1) (j := 0) (.int .i64 ((off : Nat) : Int)) (Or.inl D.out.2.2.2.2.2.1)).trans k1; have m2 := (far_cell4 (w5.setCell ⟨p3, 0, none⟩ (.slice ad5 Q.length cc5)) (p := p4) (i := 0) (q := p2) (j := 0) (.int .i64 ((off : Nat) : Int)) (Or.inl D.out.2.2.2.2.2.2)).trans k2; clear o5 s5 q5 g5 f5)))
  (try go_wp2_with fail)
  refine hK.out _ _ ?_ (fun hHeld1 => ?_)
  · (try dsimp only)
    (first | exact ⟨c0, c1, c2⟩ | exact KP.out _ O5.out | exact KP.out _ O2.out | exact KP.out _ (O2.out.trans (HCW.out _).1) | exact KP.out _ ((Old.drew w).trans (HCW.out _).1) | exact ⟨k0, k1, k2⟩ | exact ⟨m0, m1, m2⟩ | go_keep)
  clear hK K hHeld0
  try simp only [Act.put, List.getElem_toArray, List.getElem_cons_succ, List.getElem_cons_zero, List.setIfInBounds_toArray, List.set_cons_zero, List.set_cons_succ]
  refine wpAnyH_ready (rs := [3]) (by kernel_rfl) (by simp) ?_
  refine AllReadyH.cons rfl (fun K hK => ?_) AllReadyH.nil
  go_simp
  refine hK.out _ _ ?_ (fun hHeld2 => ?_)
  · (try dsimp only)
    (first | exact ⟨c0, c1, c2⟩ | exact KP.out _ O5.out | exact KP.out _ O2.out | exact KP.out _ (O2.out.trans (HCW.out _).1) | exact KP.out _ ((Old.drew w).trans (HCW.out _).1) | exact ⟨k0, k1, k2⟩ | exact ⟨m0, m1, m2⟩ | go_keep)
  clear hK K hHeld1
  try simp only [Act.put, List.getElem_toArray, List.getElem_cons_succ, List.getElem_cons_zero, List.setIfInBounds_toArray, List.set_cons_zero, List.set_cons_succ]
  refine wpAnyH_ready (rs := [5]) (by kernel_rfl) (by simp) ?_
  refine AllReadyH.cons rfl (fun K hK => ?_) AllReadyH.nil
  go_simp
  ((first
      | (go_at_call 34; refine (npc_any ad n0 fc _).mono ?_; rintro e w2 ⟨p5, ns5, fv5, b5, rfl, o2, h2, -, -, -⟩; (first | have O2 := Lib.hid ((Old.drew w).trans o2) | (have O2 := Lib.hid (((Old.drew w).trans (HCW.out w.drew).1).trans o2); have OCW := Lib.hid o2)); have H2 := Lib.hid (((bcell4 h2 3).trans rfl : w2.cell? ⟨p5, 3, none⟩ = some (.slice ad n0 fc))); clear o2 h2)
      | (go_at_call 35; (with_reducible refine (HDO.out p5 (cb w2) (cc w2) (cw w2) (O2.out.trans (HCW.out _).1) (((HCW.out w2).1.cell (o := 3) (World.block_lt_of_cell? w2 _ H2.out)).trans H2.out) (HCW.out w2).2).mono ?_); rintro e w5 ⟨ov, off, rfl, us, Q, B, o5, g5, s5, q5, f5⟩; have O5 := Lib.hid ((O2.out.trans (HCW.out _).1).trans o5); have G5 := Lib.hid (Nat.le_trans ((O2.out.trans (HCW.out _).1)).size g5); have S5 := Lib.hid s5; have Q5 := Lib.hid q5; have F5 := Lib.hid f5; obtain ⟨ad5, cc5, rfl⟩ := s5.slice; have e3 := (O5.out.cell (o := 0) b3).trans c3; have e4 := (O5.out.cell (o := 0) b4).trans c4; have z3 := (O5.out.frozen (o := 0) b3).trans f3; have z4 := (O5.out.frozen (o := 0) b4).trans f4; have e4' := (far_cell4 w5 (p := p3) (i := 0) (q := p4) (j := 0) (.slice ad5 Q.length cc5) (Or.inl (Ne.symm D.out.1))).trans e4; have z4' := (frozen_setCell w5 ⟨p3, 0, none⟩ ⟨p4, 0, none⟩ (.slice ad5 Q.length cc5)).trans z4; have e3' := (far_cell4 w5 (p := p4) (i := 0) (q := p3) (j := 0) (.int .i64 ((off : Nat) : Int)) (Or.inl D.out.1)).trans e3; have z3' := (frozen_setCell w5 ⟨p4, 0, none⟩ ⟨p3, 0, none⟩ (.int .i64 ((off : Nat) : Int))).trans z3; have k0 := (far_cell4 w5 (p := p3) (i := 0) (q := p0) (j := 0) (.slice ad5 Q.length cc5) (Or.inl D.out.2.1)).trans (KP.out _ O5.out).1; have k1 := (far_cell4 w5 (p := p3) (i := 0) (q := p1) (j := 0) (.slice ad5 Q.length cc5) (Or.inl D.out.2.2.1)).trans (KP.out _ O5.out).2.1; have k2 := (far_cell4 w5 (p := p3) (i := 0) (q := p2) (j := 0) (.slice ad5 Q.length cc5) (Or.inl D.out.2.2.2.1)).trans (KP.out _ O5.out).2.2; have m0 := (far_cell4 (w5.setCell ⟨p3, 0, none⟩ (.slice ad5 Q.length cc5)) (p := p4) (i := 0) (q := p0) (j := 0) (.int .i64 ((off : Nat) : Int)) (Or.inl D.out.2.2.2.2.1)).trans k0; have m1 := (far_cell4 (w5.setCell ⟨p3, 0, none⟩ (.slice ad5 Q.length cc5)) (p := p4) (i := 0) (q := p1) (j := 0) (.int .i64 ((off : Nat) : Int)) (Or.inl D.out.2.2.2.2.2.1)).trans k1; have m2 := (far_cell4 (w5.setCell ⟨p3, 0, none⟩ (.slice ad5 Q.length cc5)) (p := p4) (i := 0) (q := p2) (j := 0) (.int .i64 ((off : Nat) : Int)) (Or.inl D.out.2.2.2.2.2.2)).trans k2; clear o5 s5 q5 g5 f5)
      | (go_at_call 35; (with_reducible refine (HDO.out p5 (cb w.drew) (cc w.drew) w2 O2.out H2.out (RunesAt.later OCW.out (HCW.out w.drew).2)).mono ?_); rintro e w5 ⟨ov, off, rfl, us, Q, B, o5, g5, s5, q5, f5⟩; have O5 := Lib.hid (O2.out.trans o5); have G5 := Lib.hid (Nat.le_trans (O2.out).size g5); have S5 := Lib.hid s5; have Q5 := Lib.hid q5; have F5 := Lib.hid f5; obtain ⟨ad5, cc5, rfl⟩ := s5.slice; have e3 := (O5.out.cell (o := 0) b3).trans c3; have e4 := (O5.out.cell (o := 0) b4).trans c4; have z3 := (O5.out.frozen (o := 0) b3).trans f3; have z4 := (O5.out.frozen (o := 0) b4).trans f4; have e4' := (far_cell4 w5 (p := p3) (i := 0) (q := p4) (j := 0) (.slice ad5 Q.length cc5) (Or.inl (Ne.symm D.out.1))).trans e4; have z4' := (frozen_setCell w5 ⟨p3, 0, none⟩ ⟨p4, 0, none⟩ (.slice ad5 Q.length cc5)).trans z4; have e3' := (far_cell4 w5 (p := p4) (i := 0) (q := p3) (j := 0) (.int .i64 ((off : Nat) : Int)) (Or.inl D.out.1)).trans e3; have z3' := (frozen_setCell w5 ⟨p4, 0, none⟩ ⟨p3, 0, none⟩ (.int .i64 ((off : Nat) : Int))).trans z3; have k0 := (far_cell4 w5 (p := p3) (i := 0) (q := p0) (j := 0) (.slice ad5 Q.length cc5) (Or.inl D.out.2.1)).trans (KP.out _ O5.out).1; have k1 := (far_cell4 w5 (p := p3) (i := 0) (q := p1) (j := 0) (.slice ad5 Q.length cc5) (Or.inl D.out.2.2.1)).trans (KP.out _ O5.out).2.1; have k2 := (far_cell4 w5 (p := p3) (i := 0) (q := p2) (j := 0) (.slice ad5 Q.length cc5) (Or.inl D.out.2.2.2.1)).trans (KP.out _ O5.out).2.2; have m0 := (far_cell4 (w5.setCell ⟨p3, 0, none⟩ (.slice ad5 Q.length cc5)) (p := p4) (i := 0) (q := p0) (j := 0) (.int .i64 ((off : Nat) : Int)) (Or.inl D.out.2.2.2.2.1)).trans k0; have m1 := (far_cell4 (w5.setCell ⟨p3, 0, none⟩ (.slice ad5 Q.length cc5)) (p := p4) (i := 0) (q := p1) (j := 0) (.int .i64 ((off : Nat) : Int)) (Or.inl D.out.2.2.2.2.2.1)).trans k1; have m2 := (far_cell4 (w5.setCell ⟨p3, 0, none⟩ (.slice ad5 Q.length cc5)) (p := p4) (i := 0) (q := p2) (j := 0) (.int .i64 ((off : Nat) : Int)) (Or.inl D.out.2.2.2.2.2.2)).trans k2; clear o5 s5 q5 g5 f5)))
  (try go_wp2_with fail)
  refine hK.out _ _ ?_ (fun hHeld3 => ?_)
  · (try dsimp only)
    (first | exact ⟨c0, c1, c2⟩ | exact KP.out _ O5.out | exact KP.out _ O2.out | exact KP.out _ (O2.out.trans (HCW.out _).1) | exact KP.out _ ((Old.drew w).trans (HCW.out _).1) | exact ⟨k0, k1, k2⟩ | exact ⟨m0, m1, m2⟩ | go_keep)
  clear hK K hHeld2
  try simp only [Act.put, List.getElem_toArray, List.getElem_cons_succ, List.getElem_cons_zero, List.setIfInBounds_toArray, List.set_cons_zero, List.set_cons_succ]
  refine wpAnyH_take (i := 6) (v := ?_) rfl (by kernel_rfl) (by kernel_rfl) (by kernel_rfl) (fun _ _ _ h => h) (Or.inl ⟨by rfl, ?_⟩) (by assumption) ?_
  rotate_left
  · (intro w hSw; (try dsimp only at hSw); go_simp; try with_reducible rfl)
  try simp only [Act.put, List.getElem_toArray, List.getElem_cons_succ, List.getElem_cons_zero, List.setIfInBounds_toArray, List.set_cons_zero, List.set_cons_succ]
  refine wpAnyH_take (i := 7) (v := ?_) rfl (by kernel_rfl) (by kernel_rfl) (by kernel_rfl) (fun _ _ _ h => h) (Or.inl ⟨by rfl, ?_⟩) (by assumption) ?_
  rotate_left
  · (intro w hSw; (try dsimp only at hSw); go_simp; try with_reducible rfl)
  try simp only [Act.put, List.getElem_toArray, List.getElem_cons_succ, List.getElem_cons_zero, List.setIfInBounds_toArray, List.set_cons_zero, List.set_cons_succ]
  refine wpAnyH_take (i := 8) (v := ?_) rfl (by kernel_rfl) (by kernel_rfl) (by kernel_rfl) (fun _ _ _ h => h) (Or.inl ⟨by rfl, ?_⟩) (by assumption) ?_
  rotate_left
  · (intro w hSw; (try dsimp only at hSw); go_simp; try with_reducible rfl)
  try simp only [Act.put, List.getElem_toArray, List.getElem_cons_succ, List.getElem_cons_zero, List.setIfInBounds_toArray, List.set_cons_zero, List.set_cons_succ]
  refine wpAnyH_ready (rs := [9]) (by kernel_rfl) (by simp) ?_
  refine AllReadyH.cons rfl (fun K hK => ?_) AllReadyH.nil
  go_simp
  refine hK.out _ _ ?_ (fun hHeld4 => ?_)
  · (try dsimp only)
    (first | exact ⟨c0, c1, c2⟩ | exact KP.out _ O5.out | exact KP.out _ O2.out | exact KP.out _ (O2.out.trans (HCW.out _).1) | exact KP.out _ ((Old.drew w).trans (HCW.out _).1) | exact ⟨k0, k1, k2⟩ | exact ⟨m0, m1, m2⟩ | go_keep)
  clear hK K hHeld3
  try simp only [Act.put, List.getElem_toArray, List.getElem_cons_succ, List.getElem_cons_zero, List.setIfInBounds_toArray, List.set_cons_zero, List.set_cons_succ]
  refine wpAnyH_ready (rs := [10]) (by kernel_rfl) (by simp) ?_
  refine AllReadyH.cons rfl (fun K hK => ?_) AllReadyH.nil
  go_simp
  refine hK.out _ _ ?_ (fun hHeld5 => ?_)
  · (try dsimp only)
    (first | exact ⟨c0, c1, c2⟩ | exact KP.out _ O5.out | exact KP.out _ O2.out | exact KP.out _ (O2.out.trans (HCW.out _).1) | exact KP.out _ ((Old.drew w).trans (HCW.out _).1) | exact ⟨k0, k1, k2⟩ | exact ⟨m0, m1, m2⟩ | go_keep)
  clear hK K hHeld4
  try simp only [Act.put, List.getElem_toArray, List.getElem_cons_succ, List.getElem_cons_zero, List.setIfInBounds_toArray, List.set_cons_zero, List.set_cons_succ]
  refine wpAnyH_done (by kernel_rfl) ?_ _
  refine NoPanic.normal ?_
  rotate_left 1
  go_simp
  refine hK.out _ _ ?_ (fun hHeld1 => ?_)
  · (try dsimp only)
    (first | exact ⟨c0, c1, c2⟩ | exact KP.out _ O5.out | exact KP.out _ O2.out | exact KP.out _ (O2.out.trans (HCW.out _).1) | exact KP.out _ ((Old.drew w).trans (HCW.out _).1) | exact ⟨k0, k1, k2⟩ | exact ⟨m0, m1, m2⟩ | go_keep)
  clear hK K hHeld0
  try simp only [Act.put, List.getElem_toArray, List.getElem_cons_succ, List.getElem_cons_zero, List.setIfInBounds_toArray, List.set_cons_zero, List.set_cons_succ]
  refine wpAnyH_ready (rs := [1]) (by kernel_rfl) (by simp) ?_
  refine AllReadyH.cons rfl (fun K hK => ?_) AllReadyH.nil
  go_simp
  ((first
      | (go_at_call 34; refine (npc_any ad n0 fc _).mono ?_; rintro e w2 ⟨p5, ns5, fv5, b5, rfl, o2, h2, -, -, -⟩; (first | have O2 := Lib.hid ((Old.drew w).trans o2) | (have O2 := Lib.hid (((Old.drew w).trans (HCW.out w.drew).1).trans o2); have OCW := Lib.hid o2)); have H2 := Lib.hid (((bcell4 h2 3).trans rfl : w2.cell? ⟨p5, 3, none⟩ = some (.slice ad n0 fc))); clear o2 h2)
      | (go_at_call 35; (with_reducible refine (HDO.out p5 (cb w2) (cc w2) (cw w2) (O2.out.trans (HCW.out _).1) (((HCW.out w2).1.cell (o := 3) (World.block_lt_of_cell? w2 _ H2.out)).trans H2.out) (HCW.out w2).2).mono ?_); rintro e w5 ⟨ov, off, rfl, us, Q, B, o5, g5, s5, q5, f5⟩; have O5 := Lib.hid ((O2.out.trans (HCW.out _).1).trans o5); have G5 := Lib.hid (Nat.le_trans ((O2.out.trans (HCW.out _).1)).size g5); have S5 := Lib.hid s5; have Q5 := Lib.hid q5; have F5 := Lib.hid f5; obtain ⟨ad5, cc5, rfl⟩ := s5.slice; have e3 := (O5.out.cell (o := 0) b3).trans c3; have e4 := (O5.out.cell (o := 0) b4).trans c4; have z3 := (O5.out.frozen (o := 0) b3).trans f3; have z4 := (O5.out.frozen (o := 0) b4).trans f4; have e4' := (far_cell4 w5 (p := p3) (i := 0) (q := p4) (j := 0) (.slice ad5 Q.length cc5) (Or.inl (Ne.symm D.out.1))).trans e4; have z4' := (frozen_setCell w5 ⟨p3, 0, none⟩ ⟨p4, 0, none⟩ (.slice ad5 Q.length cc5)).trans z4; have e3' := (far_cell4 w5 (p := p4) (i := 0) (q := p3) (j := 0) (.int .i64 ((off : Nat) : Int)) (Or.inl D.out.1)).trans e3; have z3' := (frozen_setCell w5 ⟨p4, 0, none⟩ ⟨p3, 0, none⟩ (.int .i64 ((off : Nat) : Int))).trans z3; have k0 := (far_cell4 w5 (p := p3) (i := 0) (q := p0) (j := 0) (.slice ad5 Q.length cc5) (Or.inl D.out.2.1)).trans (KP.out _ O5.out).1; have k1 := (far_cell4 w5 (p := p3) (i := 0) (q := p1) (j := 0) (.slice ad5 Q.length cc5) (Or.inl D.out.2.2.1)).trans (KP.out _ O5.out).2.1; have k2 := (far_cell4 w5 (p := p3) (i := 0) (q := p2) (j := 0) (.slice ad5 Q.length cc5) (Or.inl D.out.2.2.2.1)).trans (KP.out _ O5.out).2.2; have m0 := (far_cell4 (w5.setCell ⟨p3, 0, none⟩ (.slice ad5 Q.length cc5)) (p := p4) (i := 0) (q := p0) (j := 0) (.int .i64 ((off : Nat) : Int)) (Or.inl D.out.2.2.2.2.1)).trans k0; have m1 := (far_cell4 (w5.setCell ⟨p3, 0, none⟩ (.slice ad5 Q.length cc5)) (p := p4) (i := 0) (q := p1) (j := 0) (.int .i64 ((off : Nat) : Int)) (Or.inl D.out.2.2.2.2.2.1)).trans k1; have m2 := (far_cell4 (w5.setCell ⟨p3, 0, none⟩ (.slice ad5 Q.length cc5)) (p := p4) (i := 0) (q := p2) (j := 0) (.int .i64 ((off : Nat) : Int)) (Or.inl D.out.2.2.2.2.2.2)).trans k2; clear o5 s5 q5 g5 f5)
      | (go_at_call 35; (with_reducible refine (HDO.out p5 (cb w.drew) (cc w.drew) w2 O2.out H2.out (RunesAt.later OCW.out (HCW.out w.drew).2)).mono ?_); rintro e w5 ⟨ov, off, rfl, us, Q, B, o5, g5, s5, q5, f5⟩; have O5 := Lib.hid (O2.out.trans o5); have G5 := Lib.hid (Nat.le_trans (O2.out).size g5); have S5 := Lib.hid s5; have Q5 := Lib.hid q5; have F5 := Lib.hid f5; obtain ⟨ad5, cc5, rfl⟩ := s5.slice; have e3 := (O5.out.cell (o := 0) b3).trans c3; have e4 := (O5.out.cell (o := 0) b4).trans c4; have z3 := (O5.out.frozen (o := 0) b3).trans f3; have z4 := (O5.out.frozen (o := 0) b4).trans f4; have e4' := (far_cell4 w5 (p := p3) (i := 0) (q := p4) (j := 0) (.slice ad5 Q.length cc5) (Or.inl (Ne.symm D.out.1))).trans e4; have z4' := (frozen_setCell w5 ⟨p3, 0, none⟩ ⟨p4, 0, none⟩ (.slice ad5 Q.length cc5)).trans z4; have e3' := (far_cell4 w5 (p := p4) (i := 0) (q := p3) (j := 0) (.int .i64 ((off : Nat) : Int)) (Or.inl D.out.1)).trans e3; have z3' := (frozen_setCell w5 ⟨p4, 0, none⟩ ⟨p3, 0, none⟩ (.int .i64 ((off : Nat) : Int))).trans z3; have k0 := (far_cell4 w5 (p := p3) (i := 0) (q := p0) (j := 0) (.slice ad5 Q.length cc5) (Or.inl D.out.2.1)).trans (KP.out _ O5.out).1; have k1 := (far_cell4 w5 (p := p3) (i := 0) (q := p1) (j := 0) (.slice ad5 Q.length cc5) (Or.inl D.out.2.2.1)).trans (KP.out _ O5.out).2.1; have k2 := (far_cell4 w5 (p := p3) (i := 0) (q := p2) (j := 0) (.slice ad5 Q.length cc5) (Or.inl D.out.2.2.2.1)).trans (KP.out _ O5.out).2.2; have m0 := (far_cell4 (w5.setCell ⟨p3, 0, none⟩ (.slice ad5 Q.length cc5)) (p := p4) (i := 0) (q := p0) (j := 0) (.int .i64 ((off : Nat) : Int)) (Or.inl D.out.2.2.2.2.1)).trans k0; have m1 := (far_cell4 (w5.setCell ⟨p3, 0, none⟩ (.slice ad5 Q.length cc5)) (p := p4) (i := 0) (q := p1) (j := 0) (.int .i64 ((off : Nat) : Int)) (Or.inl D.out.2.2.2.2.2.1)).trans k1; have m2 := (far_cell4 (w5.setCell ⟨p3, 0, none⟩ (.slice ad5 Q.length cc5)) (p := p4) (i := 0) (q := p2) (j := 0) (.int .i64 ((off : Nat) : Int)) (Or.inl D.out.2.2.2.2.2.2)).trans k2; clear o5 s5 q5 g5 f5)))
  (try go_wp2_with fail)
  refine hK.out _ _ ?_ (fun hHeld2 => ?_)
  · (try dsimp only)
    (first | exact ⟨c0, c1, c2⟩ | exact KP.out _ O5.out | exact KP.out _ O2.out | exact KP.out _ (O2.out.trans (HCW.out _).1) | exact KP.out _ ((Old.drew w).trans (HCW.out _).1) | exact ⟨k0, k1, k2⟩ | exact ⟨m0, m1, m2⟩ | go_keep)
  clear hK K hHeld1
  try simp only [Act.put, List.getElem_toArray, List.getElem_cons_succ, List.getElem_cons_zero, List.setIfInBounds_toArray, List.set_cons_zero, List.set_cons_succ]
  refine wpAnyH_ready (rs := [5]) (by kernel_rfl) (by simp) ?_
  refine AllReadyH.cons rfl (fun K hK => ?_) AllReadyH.nil
  go_simp
  ((first
      | (go_at_call 34; refine (npc_any ad n0 fc _).mono ?_; rintro e w2 ⟨p5, ns5, fv5, b5, rfl, o2, h2, -, -, -⟩; (first | have O2 := Lib.hid ((Old.drew w).trans o2) | (have O2 := Lib.hid (((Old.drew w).trans (HCW.out w.drew).1).trans o2); have OCW := Lib.hid o2)); have H2 := Lib.hid (((bcell4 h2 3).trans rfl : w2.cell? ⟨p5, 3, none⟩ = some (.slice ad n0 fc))); clear o2 h2)
      | (go_at_call 35; (with_reducible refine (HDO.out p5 (cb w2) (cc w2) (cw w2) (O2.out.trans (HCW.out _).1) (((HCW.out w2).1.cell (o := 3) (World.block_lt_of_cell? w2 _ H2.out)).trans H2.out) (HCW.out w2).2).mono ?_); rintro e w5 ⟨ov, off, rfl, us, Q, B, o5, g5, s5, q5, f5⟩; have O5 := Lib.hid ((O2.out.trans (HCW.out _).1).trans o5); have G5 := Lib.hid (Nat.le_trans ((O2.out.trans (HCW.out _).1)).size g5); have S5 := Lib.hid s5; have Q5 := Lib.hid q5; have F5 := Lib.hid f5; obtain ⟨ad5, cc5, rfl⟩ := s5.slice; have e3 := (O5.out.cell (o := 0) b3).trans c3; have e4 := (O5.out.cell (o := 0) b4).trans c4; have z3 := (O5.out.frozen (o := 0) b3).trans f3; have z4 := (O5.out.frozen (o := 0) b4).trans f4; have e4' := (far_cell4 w5 (p := p3) (i := 0) (q := p4) (j := 0) (.slice ad5 Q.length cc5) (Or.inl (Ne.symm D.out.1))).trans e4; have z4' := (frozen_setCell w5 ⟨p3, 0, none⟩ ⟨p4, 0, none⟩ (.slice ad5 Q.length cc5)).trans z4; have e3' := (far_cell4 w5 (p := p4) (i := 0) (q := p3) (j := 0) (.int .i64 ((off : Nat) : Int)) (Or.inl D.out.1)).trans e3; have z3' := (frozen_setCell w5 ⟨p4, 0, none⟩ ⟨p3, 0, none⟩ (.int .i64 ((off : Nat) : Int))).trans z3; have k0 := (far_cell4 w5 (p := p3) (i := 0) (q := p0) (j := 0) (.slice ad5 Q.length cc5) (Or.inl D.out.2.1)).trans (KP.out _ O5.out).1; have k1 := (far_cell4 w5 (p := p3) (i := 0) (q := p1) (j := 0) (.slice ad5 Q.length cc5) (Or.inl D.out.2.2.1)).trans (KP.out _ O5.out).2.1; have k2 := (far_cell4 w5 (p := p3) (i := 0) (q := p2) (j := 0) (.slice ad5 Q.length cc5) (Or.inl D.out.2.2.2.1)).trans (KP.out _ O5.out).2.2; have m0 := (far_cell4 (w5.setCell ⟨p3, 0, none⟩ (.slice ad5 Q.length cc5)) (p := p4) (i := 0) (q := p0) (j := 0) (.int .i64 ((off : Nat) : Int)) (Or.inl D.out.2.2.2.2.1)).trans k0; have m1 := (far_cell4 (w5.setCell ⟨p3, 0, none⟩ (.slice ad5 Q.length cc5)) (p := p4) (i := 0) (q := p1) (j := 0) (.int .i64 ((off : Nat) : Int)) (Or.inl D.out.2.2.2.2.2.1)).trans k1; have m2 := (far_cell4 (w5.setCell ⟨p3, 0, none⟩ (.slice ad5 Q.length cc5)) (p := p4) (i := 0) (q := p2) (j := 0) (.int .i64 ((off : Nat) : Int)) (Or.inl D.out.2.2.2.2.2.2)).trans k2; clear o5 s5 q5 g5 f5)
      | (go_at_call 35; (with_reducible refine (HDO.out p5 (cb w.drew) (cc w.drew) w2 O2.out H2.out (RunesAt.later OCW.out (HCW.out w.drew).2)).mono ?_); rintro e w5 ⟨ov, off, rfl, us, Q, B, o5, g5, s5, q5, f5⟩; have O5 := Lib.hid (O2.out.trans o5); have G5 := Lib.hid (Nat.le_trans (O2.out).size g5); have S5 := Lib.hid s5; have Q5 := Lib.hid q5; have F5 := Lib.hid f5; obtain ⟨ad5, cc5, rfl⟩ := s5.slice; have e3 := (O5.out.cell (o := 0) b3).trans c3; have e4 := (O5.out.cell (o := 0) b4).trans c4; have z3 := (O5.out.frozen (o := 0) b3).trans f3; have z4 := (O5.out.frozen (o := 0) b4).trans f4; have e4' := (far_cell4 w5 (p := p3) (i := 0) (q := p4) (j := 0) (.slice ad5 Q.length cc5) (Or.inl (Ne.symm D.out.1))).trans e4; have z4' := (frozen_setCell w5 ⟨p3, 0, none⟩ ⟨p4, 0, none⟩ (.slice ad5 Q.length cc5)).trans z4; have e3' := (far_cell4 w5 (p := p4) (i := 0) (q := p3) (j := 0) (.int .i64 ((off : Nat) : Int)) (Or.inl D.out.1)).trans e3; have z3' := (frozen_setCell w5 ⟨p4, 0, none⟩ ⟨p3, 0, none⟩ (.int .i64 ((off : Nat) : Int))).trans z3; have k0 := (far_cell4 w5 (p := p3) (i := 0) (q := p0) (j := 0) (.slice ad5 Q.length cc5) (Or.inl D.out.2.1)).trans (KP.out _ O5.out).1; have k1 := (far_cell4 w5 (p := p3) (i := 0) (q := p1) (j := 0) (.slice ad5 Q.length cc5) (Or.inl D.out.2.2.1)).trans (KP.out _ O5.out).2.1; have k2 := (far_cell4 w5 (p := p3) (i := 0) (q := p2) (j := 0) (.slice ad5 Q.length cc5) (Or.inl D.out.2.2.2.1)).trans (KP.out _ O5.out).2.2; have m0 := (far_cell4 (w5.setCell ⟨p3, 0, none⟩ (.slice ad5 Q.length cc5)) (p := p4) (i := 0) (q := p0) (j := 0) (.int .i64 ((off : Nat) : Int)) (Or.inl D.out.2.2.2.2.1)).trans k0; have m1 := (far_cell4 (w5.setCell ⟨p3, 0, none⟩ (.slice ad5 Q.length cc5)) (p := p4) (i := 0) (q := p1) (j := 0) (.int .i64 ((off : Nat) : Int)) (Or.inl D.out.2.2.2.2.2.1)).trans k1; have m2 := (far_cell4 (w5.setCell ⟨p3, 0, none⟩ (.slice ad5 Q.length cc5)) (p := p4) (i := 0) (q := p2) (j := 0) (.int .i64 ((off : Nat) : Int)) (Or.inl D.out.2.2.2.2.2.2)).trans k2; clear o5 s5 q5 g5 f5)))
  (try go_wp2_with fail)
  refine hK.out _ _ ?_ (fun hHeld3 => ?_)
  · (try dsimp only)
    (first | exact ⟨c0, c1, c2⟩ | exact KP.out _ O5.out | exact KP.out _ O2.out | exact KP.out _ (O2.out.trans (HCW.out _).1) | exact KP.out _ ((Old.drew w).trans (HCW.out _).1) | exact ⟨k0, k1, k2⟩ | exact ⟨m0, m1, m2⟩ | go_keep)
  clear hK K hHeld2
  try simp only [Act.put, List.getElem_toArray, List.getElem_cons_succ, List.getElem_cons_zero, List.setIfInBounds_toArray, List.set_cons_zero, List.set_cons_succ]
  refine wpAnyH_take (i := 6) (v := ?_) rfl (by kernel_rfl) (by kernel_rfl) (by kernel_rfl) (fun _ _ _ h => h) (Or.inl ⟨by rfl, ?_⟩) (by assumption) ?_
  rotate_left
  · (intro w hSw; (try dsimp only at hSw); go_simp; try with_reducible rfl)
  try simp only [Act.put, List.getElem_toArray, List.getElem_cons_succ, List.getElem_cons_zero, List.setIfInBounds_toArray, List.set_cons_zero, List.set_cons_succ]
  refine wpAnyH_take (i := 7) (v := ?_) rfl (by kernel_rfl) (by kernel_rfl) (by kernel_rfl) (fun _ _ _ h => h) (Or.inl ⟨by rfl, ?_⟩) (by assumption) ?_
  rotate_left
  · (intro w hSw; (try dsimp only at hSw); go_simp; try with_reducible rfl)
  try simp only [Act.put, List.getElem_toArray, List.getElem_cons_succ, List.getElem_cons_zero, List.setIfInBounds_toArray, List.set_cons_zero, List.set_cons_succ]
  refine wpAnyH_take (i := 8) (v := ?_) rfl (by kernel_rfl) (by kernel_rfl) (by kernel_rfl) (fun _ _ _ h => h) (Or.inl ⟨by rfl, ?_⟩) (by assumption) ?_
  rotate_left
  · (intro w hSw; (try dsimp only at hSw); go_simp; try with_reducible rfl)
  try simp only [Act.put, List.getElem_toArray, List.getElem_cons_succ, List.getElem_cons_zero, List.setIfInBounds_toArray, List.set_cons_zero, List.set_cons_succ]
  refine wpAnyH_ready (rs := [9]) (by kernel_rfl) (by simp) ?_
  refine AllReadyH.cons rfl (fun K hK => ?_) AllReadyH.nil
  go_simp
  refine hK.out _ _ ?_ (fun hHeld4 => ?_)
  · (try dsimp only)
    (first | exact ⟨c0, c1, c2⟩ | exact KP.out _ O5.out | exact KP.out _ O2.out | exact KP.out _ (O2.out.trans (HCW.out _).1) | exact KP.out _ ((Old.drew w).trans (HCW.out _).1) | exact ⟨k0, k1, k2⟩ | exact ⟨m0, m1, m2⟩ | go_keep)
  clear hK K hHeld3
  try simp only [Act.put, List.getElem_toArray, List.getElem_cons_succ, List.getElem_cons_zero, List.setIfInBounds_toArray, List.set_cons_zero, List.set_cons_succ]
  refine wpAnyH_ready (rs := [10]) (by kernel_rfl) (by simp) ?_
  refine AllReadyH.cons rfl (fun K hK => ?_) AllReadyH.nil
  go_simp
  refine hK.out _ _ ?_ (fun hHeld5 => ?_)
  · (try dsimp only)
    (first | exact ⟨c0, c1, c2⟩ | exact KP.out _ O5.out | exact KP.out _ O2.out | exact KP.out _ (O2.out.trans (HCW.out _).1) | exact KP.out _ ((Old.drew w).trans (HCW.out _).1) | exact ⟨k0, k1, k2⟩ | exact ⟨m0, m1, m2⟩ | go_keep)
  clear hK K hHeld4
  try simp only [Act.put, List.getElem_toArray, List.getElem_cons_succ, List.getElem_cons_zero, List.setIfInBounds_toArray, List.set_cons_zero, List.set_cons_succ]
  refine wpAnyH_done (by kernel_rfl) ?_ _
  refine NoPanic.normal ?_
  rotate_left 1
  all_goals
    go_wp2_with fail
    go_end0
    exact ⟨rfl, w5, _, off, us, Q, B, O5.out, G5.out, S5.out, Q5.out, F5.out, rfl⟩
end Go.Proofs.YtalkikljjffpmaaDoor
