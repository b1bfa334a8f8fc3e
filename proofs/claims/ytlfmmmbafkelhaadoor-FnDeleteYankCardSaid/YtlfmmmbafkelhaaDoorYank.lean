/- readline's RuneBuffer: what was taken out is put in. -/
import Derived.Test.YtlfmmmbafkelhaaDoorKillF
namespace Go.Proofs.YtlfmmmbafkelhaaDoor
open Go.RowKit
set_option linter.unusedVariables false
set_option linter.unusedSimpArgs false
set_option maxRecDepth 100000

/-- What Yank's step reads. -/
structure YK (w : World) (v p b : Nat) (st : St) (c kb kc : Nat) : Prop where
  rb : RB w p b st
  var : Var w v p b
  c0 : w.cell? ⟨p, 0, none⟩ = some (.slice (some ⟨b, 0, none⟩) st.l.length c)
  c1 : w.cell? ⟨p, 1, none⟩ = some (.int .i64 st.at_)
  c10 : w.cell? ⟨p, 10, none⟩ = some (.slice (some ⟨kb, 0, none⟩) st.kl.length kc)
  lb : LB w b c st.l
  klt : kb < w.heap.size
  kcells : ∀ j, j < st.kl.length → w.cell? ⟨kb, j, none⟩ = some (.int .i32 (gi st.kl j))
theorem YK.old {w w' : World} {v p b : Nat} {st : St} {c kb kc : Nat} (h : YK w v p b st c kb kc) (o : Old w w') : YK w' v p b st c kb kc :=
  have hp := h.rb.lt.1
  ⟨h.rb.old o, h.var.old o, (o.cell hp).trans h.c0, (o.cell hp).trans h.c1, (o.cell hp).trans h.c10, h.lb.old o, Nat.lt_of_lt_of_le h.klt o.size, fun j hj => (o.cell h.klt).trans (h.kcells j hj)⟩
theorem YK.lt {w : World} {v p b : Nat} {st : St} {c kb kc : Nat} (h : YK w v p b st c kb kc) : p < w.heap.size := h.rb.lt.1
theorem RB.yk {w : World} {v p b : Nat} {st : St} (h : RB w p b st) (hv : Var w v p b) (h0 : st.kl ≠ []) : ∃ c kb kc, YK w v p b st c kb kc ∧ st.l.length ≤ c ∧ c ≤ maxLen ∧ st.kl.length ≤ kc ∧ kc ≤ maxLen := by
  have H := h
  obtain ⟨c, kv, hp, hown, hat, hl, hkl, hne, hk, ht⟩ := h
  rcases hk with ⟨_, h1⟩ | ⟨kb, kc, rfl, h2, h3, h4, h5, h6, h8, h7⟩
  · exact absurd h1 h0
  · exact ⟨c, kb, kc, ⟨H, hv, hp.c0, hp.c1, hp.c10, hown, h4, h7⟩, hown.cap.1, hown.cap.2, h2, h3⟩

/-- The line behind Yank. -/
theorem RB.yanked {w w5 : World} {p b g cap n : Nat} {st : St} {xs : List Value} (H : RB w p b st) (o : Old w w5) (hown : w5.ownsRow w.heap.size 21 1 (.slice (some ⟨g, 0, none⟩) n cap) n xs)
    (hxs : xs = (st.l.take st.at_ ++ (st.kl ++ st.l.drop st.at_)).map (Value.int .i32)) (hlen : st.l.length + st.kl.length ≤ 1000) :
    RB ((w5.setCell ⟨p, 0, none⟩ (.slice (some ⟨g, 0, none⟩) n cap)).setCell ⟨p, 1, none⟩ (.int .i64 ((st.at_ : Int) + st.kl.length))) p g { st with l := st.l.take st.at_ ++ (st.kl ++ st.l.drop st.at_), at_ := st.at_ + st.kl.length } ∧
      Mod p b w ((w5.setCell ⟨p, 0, none⟩ (.slice (some ⟨g, 0, none⟩) n cap)).setCell ⟨p, 1, none⟩ (.int .i64 ((st.at_ : Int) + st.kl.length))) ∧ w.heap.size ≤ g := by
  subst hxs
  have hlt := H.lt
  have hg := (own_lt hown).1
  have hnl : n = (st.l.take st.at_ ++ (st.kl ++ st.l.drop st.at_)).length := by have := hown.1; rw [List.length_map] at this; omega
  subst hnl
  have M : Mod p b w ((w5.setCell ⟨p, 0, none⟩ (.slice (some ⟨g, 0, none⟩) (st.l.take st.at_ ++ (st.kl ++ st.l.drop st.at_)).length cap)).setCell ⟨p, 1, none⟩ (.int .i64 ((st.at_ : Int) + st.kl.length))) := ((Mod.of_old o).stored p 0 _ (Or.inl rfl)).stored p 1 _ (Or.inl rfl)
  obtain ⟨c, kv, hp, hL, hat, hl, hkl, hne, hk, ht1, ht2, ht3⟩ := H
  have hLg : LB w5 g cap (st.l.take st.at_ ++ (st.kl ++ st.l.drop st.at_)) := own_base hown (Nat.zero_le _)
  have hpg : p ≠ g := by omega
  have hll : (st.l.take st.at_ ++ (st.kl ++ st.l.drop st.at_)).length = st.l.length + st.kl.length := by simp; omega
  refine ⟨⟨cap, kv, ((hp.old o).set0 _).set1 _, (hLg.other (Ne.symm hpg) _).other (Ne.symm hpg) _, ?_, ?_, hkl, hpg, hk.mod M (Or.inr hg), Nat.lt_of_lt_of_le ht1 M.size, ?_, ht3⟩, M, hg⟩
  · show st.at_ + st.kl.length ≤ (st.l.take st.at_ ++ (st.kl ++ st.l.drop st.at_)).length
    omega
  · show (st.l.take st.at_ ++ (st.kl ++ st.l.drop st.at_)).length ≤ 1000
    omega
  · show g ≠ st.t
    omega

set_option maxHeartbeats 2000000 in
theorem yank1_any (v p b : Nat) (st : St) (w : World) (h : RB w p b st) (hv : Var w v p b) (h0 : st.kl ≠ []) (hlen : st.l.length + st.kl.length ≤ 1000) :
    Calls Tryd.prog 140 #[.pointer (some ⟨v, 0, none⟩)] w fun e w' => e = .returned (.tuple #[]) ∧ Step p b { st with l := st.l.take st.at_ ++ (st.kl ++ st.l.drop st.at_), at_ := st.at_ + st.kl.length } w w' := by
  obtain ⟨c, kb, kc, hy, hc1, hc2, hk1, hk2⟩ := h.yk hv h0
  have hat : st.at_ ≤ st.l.length := by obtain ⟨_, _, _, _, hat, _⟩ := h; exact hat
  have H := Lib.hid h
  unfold maxLen at hc2 hk2
  have hac : st.at_ ≤ c := by omega
  have e1 : IntKind.i64.wrap ((st.l.length : Int) + st.kl.length) = (st.l.length : Int) + st.kl.length := IntWalk.i64_in _ (by omega)
  have e2 : IntKind.i64.wrap ((st.at_ : Int) + st.kl.length) = (st.at_ : Int) + st.kl.length := IntWalk.i64_in _ (by omega)
  have Y0 := Lib.hid hy
  have hv0 := hy.var.cell
  have c0 := hy.c0
  have c1 := hy.c1
  have c10 := hy.c10
  clear h hv h0 hy
  have HI := Lib.hid info_r
  by_cases hcc : c = st.at_
  · subst hcc
    go_enter Tryd.func140, Tryd.ntmps140
    go_wp2_with fail
    go_still_tail 11, (by kernel_rfl)
    change wpList _ _ _ _ _ w.drew
    obtain ⟨i, hi, hz0, hz1, hz2⟩ := info_parts1 HI.out
    refine wpList_make_own w.drew rfl _ _ 54 rfl w.heap.size 21 i _ 1 Tryd.underlying54 hi hz0 hz1 _ _ _ (st.l.length + st.kl.length) rfl rfl (by push_cast; rfl) (by rw [hz2]; omega) (by unfold maxLen; omega) (Nat.le_refl _) ?_
    intro w1 hown1 hg1
    have O1 := Lib.hid ((Old.drew w).grown hg1 (fun q hq => by cases hq))
    have R1 := Lib.hid hown1
    clear hown1 hg1 hv0 c0 c1 c10 hi hz0 hz1 hz2 i
    have Y1 := Lib.hid (Y0.out.old O1.out)
    have hv0 := Y1.out.var.cell
    have c0 := Y1.out.c0
    have c1 := Y1.out.c1
    go_wp2_with fail
    go_still_tail 10, (by kernel_rfl)
    change wpList _ _ _ _ _ w1.drew
    have Y2 := Lib.hid (Y1.out.old (Old.drew w1))
    have O2 := Lib.hid (O1.out.trans (Old.drew w1))
    have R2 : Hid (w1.drew.ownsRow w.heap.size 21 1 (.slice (some ⟨w.drew.heap.size, 0, none⟩) 0 (st.l.length + st.kl.length)) 0 []) := R1.out
    have hT : (st.l.take st.at_).length = st.at_ := by simp; omega
    have HT := Lib.hid hT
    clear hv0 c0 c1 Y1 O1 R1 hT
    generalize w1.drew = w2 at Y2 O2 R2 ⊢
    refine wpList_append_runes rfl _ _ 54 21 (.int .i32 0) rfl Tryd.underlying54 info_r rfl w.heap.size (.slice (some ⟨w.drew.heap.size, 0, none⟩) 0 (st.l.length + st.kl.length)) 0 [] rfl R2.out b 0 _ (st.l.take st.at_) (by rw [HT.out]; rfl) (fun j hj => by rw [Nat.zero_add, gi_take (by have := HT.out; omega)]; exact Y2.out.lb.cell j (by have := HT.out; omega)) (by have := HT.out; omega) O2.out.size (by simp) ?_
    intro w3 g3 cap3 hown3 hg3
    have O3 := Lib.hid (O2.out.own (Nat.le_refl _) R2.out hg3)
    have Y3 := Lib.hid (Y0.out.old O3.out)
    have hv0 := Y3.out.var.cell
    have c10 := Y3.out.c10
    have R3 := Lib.hid hown3
    clear hown3 hg3 Y2 O2 R2
    rw [HT.out, Nat.zero_add, List.nil_append] at R3
    go_wp2_with (at_builtin; refine wpList_append_runes rfl _ _ 54 21 (.int .i32 0) rfl Tryd.underlying54 info_r rfl w.heap.size (.slice (some ⟨g3, 0, none⟩) st.at_ cap3) st.at_ _ rfl R3.out kb 0 kc st.kl rfl (fun j hj => by rw [Nat.zero_add]; exact Y3.out.kcells j hj) (by omega) O3.out.size (by simp) ?_
                 intro w4 g4 cap4 hown4 hg4
                 have O4 := Lib.hid (O3.out.own (Nat.le_refl _) R3.out hg4)
                 have R4 := Lib.hid hown4
                 clear hown4 hg4 hv0 c10 O3 Y3 R3)
    have Y4 := Lib.hid (Y0.out.old O4.out)
    have hv0 := Y4.out.var.cell
    have c0 := Y4.out.c0
    have c1 := Y4.out.c1
    go_still_tail 10, (by kernel_rfl)
    change wpList _ _ _ _ _ w4.drew
    have Y5 := Lib.hid (Y4.out.old (Old.drew w4))
    have O5 := Lib.hid (O4.out.trans (Old.drew w4))
    have R5 : Hid (w4.drew.ownsRow w.heap.size 21 1 (.slice (some ⟨g4, 0, none⟩) (st.at_ + st.kl.length) cap4) (st.at_ + st.kl.length) (List.map (Value.int .i32) (List.take st.at_ st.l) ++ List.map (Value.int .i32) st.kl)) := R4.out
    clear hv0 c0 c1 Y4 O4 R4
    generalize w4.drew = w5 at Y5 O5 R5 ⊢
    refine wpList_append_runes rfl _ _ 54 21 (.int .i32 0) rfl Tryd.underlying54 info_r rfl w.heap.size (.slice (some ⟨g4, 0, none⟩) (st.at_ + st.kl.length) cap4) (st.at_ + st.kl.length) _ rfl R5.out b 0 0 [] rfl (fun j hj => by cases hj) (by simp; omega) O5.out.size (by simp) ?_
    intro w6 g6 cap6 hown6 hg6
    have O6 := Lib.hid (O5.out.own (Nat.le_refl _) R5.out hg6)
    have Y6 := Lib.hid (Y0.out.old O6.out)
    have R6 := Lib.hid hown6
    clear hown6 hg6 Y5 O5 R5
    have hv0 := Y6.out.var.cell
    have c0 := Y6.out.c0
    have f0 : w6.frozen? ⟨p, 0, none⟩ = false := by obtain ⟨_, _, hp6, _⟩ := Y6.out.rb; exact hp6.free 0
    go_wp2_with fail
    have R6 : Hid (w6.ownsRow w.heap.size 21 1 (.slice (some ⟨g6, 0, none⟩) (st.at_ + st.kl.length) cap6) (st.at_ + st.kl.length) _) := R6
    have YDH := Lib.hid (H.out.yanked O6.out R6.out (by rw [List.drop_eq_nil_of_le hc1]; simp) hlen)
    have V7 : Hid (Var (w6.setCell ⟨p, 0, none⟩ (.slice (some ⟨g6, 0, none⟩) (st.at_ + st.kl.length) cap6)) v p b) := Y6.out.var.mod ((Mod.refl p b w6).stored p 0 _ (Or.inl rfl))
    have P7 : Hid (∃ bv kv, PB (w6.setCell ⟨p, 0, none⟩ (.slice (some ⟨g6, 0, none⟩) (st.at_ + st.kl.length) cap6)) p bv (.int .i64 st.at_) kv ∧ kv = .slice (some ⟨kb, 0, none⟩) st.kl.length kc) := by
      obtain ⟨_, kv, hp6, _⟩ := Y6.out.rb
      have e := Option.some.inj (hp6.c10.symm.trans Y6.out.c10)
      exact ⟨_, kv, hp6.set0 _, e⟩
    clear hv0 c0 f0 Y6 O6 R6 Y0 H
    generalize w6.setCell ⟨p, 0, none⟩ (.slice (some ⟨g6, 0, none⟩) (st.at_ + st.kl.length) cap6) = w7 at YDH V7 P7 ⊢
    obtain ⟨bv, kv, hp7, rfl⟩ := P7.out
    have hv0 := V7.out.cell
    have c1 := hp7.c1
    have c10 := hp7.c10
    have f1 := hp7.free 1
    clear hp7
    go_still_tail 12, (by kernel_rfl)
    change wpList _ _ _ _ _ w7.drew
    go_wp2_with fail
    go_end0
    have RR : RB (w7.drew.setCell ⟨p, 1, none⟩ (.int .i64 ((st.at_ : Int) + st.kl.length))) p g6 { st with l := st.l.take st.at_ ++ (st.kl ++ st.l.drop st.at_), at_ := st.at_ + st.kl.length } := YDH.out.1.old (Old.drew _)
    have MM : Mod p b w (w7.drew.setCell ⟨p, 1, none⟩ (.int .i64 ((st.at_ : Int) + st.kl.length))) := YDH.out.2.1.then_old (Old.drew _)
    exact ⟨rfl, g6, RR, MM, Or.inr YDH.out.2.2⟩
  · go_enter Tryd.func140, Tryd.ntmps140
    go_wp2_with fail
    go_still_tail 11, (by kernel_rfl)
    change wpList _ _ _ _ _ w.drew
    obtain ⟨i, hi, hz0, hz1, hz2⟩ := info_parts1 HI.out
    refine wpList_make_own w.drew rfl _ _ 54 rfl w.heap.size 21 i _ 1 Tryd.underlying54 hi hz0 hz1 _ _ _ (st.l.length + st.kl.length) rfl rfl (by push_cast; rfl) (by rw [hz2]; omega) (by unfold maxLen; omega) (Nat.le_refl _) ?_
    intro w1 hown1 hg1
    have O1 := Lib.hid ((Old.drew w).grown hg1 (fun q hq => by cases hq))
    have R1 := Lib.hid hown1
    clear hown1 hg1 hv0 c0 c1 c10 hi hz0 hz1 hz2 i
    have Y1 := Lib.hid (Y0.out.old O1.out)
    have hv0 := Y1.out.var.cell
    have c0 := Y1.out.c0
    have c1 := Y1.out.c1
    go_wp2_with fail
    go_still_tail 10, (by kernel_rfl)
    change wpList _ _ _ _ _ w1.drew
    have Y2 := Lib.hid (Y1.out.old (Old.drew w1))
    have O2 := Lib.hid (O1.out.trans (Old.drew w1))
    have R2 : Hid (w1.drew.ownsRow w.heap.size 21 1 (.slice (some ⟨w.drew.heap.size, 0, none⟩) 0 (st.l.length + st.kl.length)) 0 []) := R1.out
    have hT : (st.l.take st.at_).length = st.at_ := by simp; omega
    have HT := Lib.hid hT
    clear hv0 c0 c1 Y1 O1 R1 hT
    generalize w1.drew = w2 at Y2 O2 R2 ⊢
    refine wpList_append_runes rfl _ _ 54 21 (.int .i32 0) rfl Tryd.underlying54 info_r rfl w.heap.size (.slice (some ⟨w.drew.heap.size, 0, none⟩) 0 (st.l.length + st.kl.length)) 0 [] rfl R2.out b 0 _ (st.l.take st.at_) (by rw [HT.out]; rfl) (fun j hj => by rw [Nat.zero_add, gi_take (by have := HT.out; omega)]; exact Y2.out.lb.cell j (by have := HT.out; omega)) (by have := HT.out; omega) O2.out.size (by simp) ?_
    intro w3 g3 cap3 hown3 hg3
    have O3 := Lib.hid (O2.out.own (Nat.le_refl _) R2.out hg3)
    have Y3 := Lib.hid (Y0.out.old O3.out)
    have hv0 := Y3.out.var.cell
    have c10 := Y3.out.c10
    have R3 := Lib.hid hown3
    clear hown3 hg3 Y2 O2 R2
    rw [HT.out, Nat.zero_add, List.nil_append] at R3
    go_wp2_with (at_builtin; refine wpList_append_runes rfl _ _ 54 21 (.int .i32 0) rfl Tryd.underlying54 info_r rfl w.heap.size (.slice (some ⟨g3, 0, none⟩) st.at_ cap3) st.at_ _ rfl R3.out kb 0 kc st.kl rfl (fun j hj => by rw [Nat.zero_add]; exact Y3.out.kcells j hj) (by omega) O3.out.size (by simp) ?_
                 intro w4 g4 cap4 hown4 hg4
                 have O4 := Lib.hid (O3.out.own (Nat.le_refl _) R3.out hg4)
                 have R4 := Lib.hid hown4
                 clear hown4 hg4 hv0 c10 O3 Y3 R3)
    have Y4 := Lib.hid (Y0.out.old O4.out)
    have hv0 := Y4.out.var.cell
    have c0 := Y4.out.c0
    have c1 := Y4.out.c1
    go_still_tail 10, (by kernel_rfl)
    change wpList _ _ _ _ _ w4.drew
    have Y5 := Lib.hid (Y4.out.old (Old.drew w4))
    have O5 := Lib.hid (O4.out.trans (Old.drew w4))
    have R5 : Hid (w4.drew.ownsRow w.heap.size 21 1 (.slice (some ⟨g4, 0, none⟩) (st.at_ + st.kl.length) cap4) (st.at_ + st.kl.length) (List.map (Value.int .i32) (List.take st.at_ st.l) ++ List.map (Value.int .i32) st.kl)) := R4.out
    clear hv0 c0 c1 Y4 O4 R4
    generalize w4.drew = w5 at Y5 O5 R5 ⊢
    refine wpList_append_runes rfl _ _ 54 21 (.int .i32 0) rfl Tryd.underlying54 info_r rfl w.heap.size (.slice (some ⟨g4, 0, none⟩) (st.at_ + st.kl.length) cap4) (st.at_ + st.kl.length) _ rfl R5.out b st.at_ (c - st.at_) (st.l.drop st.at_) (by rw [List.length_drop]; rfl) (fun j hj => by rw [gi_drop]; exact Y5.out.lb.cell _ (by simp at hj; omega)) (by rw [List.length_drop]; omega) O5.out.size (by simp) ?_
    intro w6 g6 cap6 hown6 hg6
    have O6 := Lib.hid (O5.out.own (Nat.le_refl _) R5.out hg6)
    have Y6 := Lib.hid (Y0.out.old O6.out)
    have R6 := Lib.hid hown6
    clear hown6 hg6 Y5 O5 R5
    have hv0 := Y6.out.var.cell
    have c0 := Y6.out.c0
    have f0 : w6.frozen? ⟨p, 0, none⟩ = false := by obtain ⟨_, _, hp6, _⟩ := Y6.out.rb; exact hp6.free 0
    go_wp2_with fail
    rw [List.length_drop] at R6
    have YDH := Lib.hid (H.out.yanked O6.out R6.out (by simp) hlen)
    have V7 : Hid (Var (w6.setCell ⟨p, 0, none⟩ (.slice (some ⟨g6, 0, none⟩) (st.at_ + st.kl.length + (st.l.length - st.at_)) cap6)) v p b) := Y6.out.var.mod ((Mod.refl p b w6).stored p 0 _ (Or.inl rfl))
    have P7 : Hid (∃ bv kv, PB (w6.setCell ⟨p, 0, none⟩ (.slice (some ⟨g6, 0, none⟩) (st.at_ + st.kl.length + (st.l.length - st.at_)) cap6)) p bv (.int .i64 st.at_) kv ∧ kv = .slice (some ⟨kb, 0, none⟩) st.kl.length kc) := by
      obtain ⟨_, kv, hp6, _⟩ := Y6.out.rb
      have e := Option.some.inj (hp6.c10.symm.trans Y6.out.c10)
      exact ⟨_, kv, hp6.set0 _, e⟩
    clear hv0 c0 f0 Y6 O6 R6 Y0 H
    generalize w6.setCell ⟨p, 0, none⟩ (.slice (some ⟨g6, 0, none⟩) (st.at_ + st.kl.length + (st.l.length - st.at_)) cap6) = w7 at YDH V7 P7 ⊢
    obtain ⟨bv, kv, hp7, rfl⟩ := P7.out
    have hv0 := V7.out.cell
    have c1 := hp7.c1
    have c10 := hp7.c10
    have f1 := hp7.free 1
    clear hp7
    go_still_tail 12, (by kernel_rfl)
    change wpList _ _ _ _ _ w7.drew
    go_wp2_with fail
    go_end0
    have RR : RB (w7.drew.setCell ⟨p, 1, none⟩ (.int .i64 ((st.at_ : Int) + st.kl.length))) p g6 { st with l := st.l.take st.at_ ++ (st.kl ++ st.l.drop st.at_), at_ := st.at_ + st.kl.length } := YDH.out.1.old (Old.drew _)
    have MM : Mod p b w (w7.drew.setCell ⟨p, 1, none⟩ (.int .i64 ((st.at_ : Int) + st.kl.length))) := YDH.out.2.1.then_old (Old.drew _)
    exact ⟨rfl, g6, RR, MM, Or.inr YDH.out.2.2⟩

/-- The state behind Yank. -/
def yankSt (st : St) : St := { st with l := st.l.take st.at_ ++ (st.kl ++ st.l.drop st.at_), at_ := st.at_ + st.kl.length }
theorem yankSt_nil (st : St) (h : st.kl = []) : yankSt st = st := by cases st; simp at h; subst h; simp [yankSt]
theorem yank_any (p b : Nat) (st : St) (w : World) (h : RB w p b st) (hlen : st.l.length + st.kl.length ≤ 1000) :
    Calls Tryd.prog 116 #[.pointer (some ⟨p, 0, none⟩)] w fun e w' => e = .returned (.tuple #[]) ∧ Step p b (yankSt st) w w' := by
  have H := Lib.hid h
  have hmf : ∀ (fn : Fn) (first cap : Array Value) (w : World), (Instr.makeFunc fn first cap).run Tryd.prog w = .ok (.func fn first cap) w := fun _ _ _ _ => rfl
  by_cases h0 : st.kl = []
  · obtain ⟨c, kv, hp, hown, hat, hl, hkl, hne, hk, ht⟩ := h
    have hkv : ∃ ad kc, kv = .slice ad 0 kc := by
      rcases hk with ⟨h, _⟩ | ⟨kb, kc, h, _⟩
      · exact ⟨_, _, h⟩
      · rw [h0] at h; exact ⟨_, _, h⟩
    obtain ⟨ad, kc, rfl⟩ := hkv
    have c10 := hp.c10
    have c10' : ∀ o, (w.alloc o).cell? ⟨p, 10, none⟩ = some (.slice ad 0 kc) := fun o => ((Old.alloc w o).cell hp.lt).trans c10
    have HE := Lib.hid (yankSt_nil st h0)
    clear hp hown hk ht h0 hat c10
    go_enter Tryd.func116, Tryd.ntmps116
    go_wp2_with fail
    refine bodyPost_ret (results_none rfl _ _ _) rfl ?_
    exact ⟨rfl, Step.same H.out (Old.alloc w _) HE.out⟩
  · have hc : ∃ kb kc, w.cell? ⟨p, 10, none⟩ = some (.slice (some ⟨kb, 0, none⟩) st.kl.length kc) := by
      obtain ⟨c, kv, hp, hown, hat, hl, hkl, hne, hk, ht⟩ := h
      rcases hk with ⟨_, h1⟩ | ⟨kb, kc, h1, _⟩
      · exact absurd h1 h0
      · exact ⟨kb, kc, by rw [← h1]; exact hp.c10⟩
    obtain ⟨kb, kc, c10⟩ := hc
    have c10' : ∀ o, (w.alloc o).cell? ⟨p, 10, none⟩ = some (.slice (some ⟨kb, 0, none⟩) st.kl.length kc) := fun o => ((Old.alloc w o).cell h.lt.1).trans c10
    have H0 := Lib.hid h0
    have d1 : ((st.kl.length : Int) == 0) = false := by
      have : 0 < st.kl.length := List.length_pos_iff.2 h0
      simp; omega
    clear h h0 c10
    go_enter Tryd.func116, Tryd.ntmps116
    go_wp2_with (go_at_call 84; refine (refresh_any 140 _ _ _ (Step p b (yankSt st) (w.alloc (.cells #[.pointer (some ⟨p, 0, none⟩)] 63))) (fun _ => by kernel_rfl) (yank1_any _ p b st _ (H.out.old (Old.alloc _ _)) H.out.var H0.out hlen)).mono ?_; rintro e w1 ⟨rfl, h1⟩)
    go_end0
    exact ⟨rfl, h1.from_old (Old.alloc _ _)⟩
end Go.Proofs.YtlfmmmbafkelhaaDoor
