/- readline's RuneBuffer: all behind the cursor, all ahead of it, all. -/
import Derived.Test.YtlfmmmbafkelhaaDoorRBK0
import Derived.Laws.CopyOwn
import Derived.OwnWalk
namespace Go.Proofs.YtlfmmmbafkelhaaDoor
open Go.RowKit
set_option linter.unusedVariables false
set_option linter.unusedSimpArgs false
set_option maxRecDepth 100000

/-- The line's front, in the same block. -/
theorem RB.set_front {w : World} {p b c m : Nat} {st : St} (h : RB w p b st) (h0 : w.cell? ⟨p, 0, none⟩ = some (.slice (some ⟨b, 0, none⟩) m c)) (n : Nat) (hn : n ≤ st.l.length) (ha : st.at_ ≤ n) :
    RB (w.setCell ⟨p, 0, none⟩ (.slice (some ⟨b, 0, none⟩) n c)) p b { st with l := st.l.take n } := by
  obtain ⟨c', kv, h1, h2, h3, h4, h5, h6, h7, h8, h9⟩ := h
  have e := Option.some.inj (h1.c0.symm.trans h0)
  injection e with _ hm hc
  subst hc
  have hl : (st.l.take n).length = n := by simp; omega
  refine ⟨c', kv, ?_, (h2.take n hn).other (Ne.symm h6) _, ?_, ?_, h5, h6, h7.mod ((Mod.refl p b w).stored p 0 _ (Or.inl rfl)) (Or.inl rfl), by simp [World.setCell]; exact h8, h9⟩
  · show PB _ p (.slice (some ⟨b, 0, none⟩) (st.l.take n).length c') _ _
    rw [hl]; exact h1.set0 _
  · show st.at_ ≤ (st.l.take n).length
    omega
  · show (st.l.take n).length ≤ 1000
    omega
theorem Mod.set0 {p b : Nat} {u w : World} (m : Mod p b u w) (x : Value) : Mod p b u (w.setCell ⟨p, 0, none⟩ x) := m.stored p 0 x (Or.inl rfl)

set_option maxHeartbeats 1000000 in
theorem kill1_any (v p b : Nat) (st : St) (w : World) (h : RB w p b st) (hv : Var w v p b) :
    Calls Tryd.prog 138 #[.pointer (some ⟨v, 0, none⟩)] w fun e w' => e = .returned (.tuple #[]) ∧ Step p b { st with l := st.l.take st.at_, kl := st.l.drop st.at_ } w w' := by
  have H := Lib.hid h
  have HV := Lib.hid hv
  obtain ⟨c, kv, hp, hown, hat, hl, hkl, hne, hk, ht⟩ := h
  clear ht
  have hv0 := hv.cell
  have c0 := hp.c0
  have c1 := hp.c1
  have hcap := hown.cap
  obtain ⟨hcap1, hcap2⟩ := hcap
  unfold maxLen at hcap2
  have hac : st.at_ ≤ c := by omega
  have HL := Lib.hid hown
  clear hp hown hk hv
  by_cases hcc : c = st.at_
  · subst hcc
    have hd : Hid (st.l.drop st.at_ = []) := List.drop_eq_nil_of_le hcap1
    go_enter Tryd.func138, Tryd.ntmps138
    go_wp2_with fail
    go_still_tail 10, (by kernel_rfl)
    change wpList _ _ _ _ _ w.drew
    have H2 := Lib.hid (H.out.old (Old.drew w))
    have V2 := Lib.hid (HV.out.old (Old.drew w))
    have L2 := Lib.hid (HL.out.old (Old.drew w))
    have O2 := Lib.hid (Old.drew w)
    clear hv0 c0 c1 H HL
    generalize w.drew = w2 at H2 V2 O2 L2 ⊢
    go_wp2_with (go_at_call 103; refine (pushKill_any p b b 0 _ 0 [] st w2 H2.out rfl (fun j hj => by cases hj) (Nat.zero_le _)).mono ?_; rintro e w3 ⟨rfl, h3, m3⟩; rw [← hd.out] at h3; have H3 := Lib.hid h3; have V3 := Lib.hid (V2.out.mod m3.weaken); have M3 := Lib.hid ((Mod.of_old O2.out).trans (m3.weaken (b := b)) (Or.inl rfl)); clear h3 m3 H2 V2 L2 O2)
    obtain ⟨c', kv', hp, hown, _, _, _, _, _, _⟩ := H3.out
    have hv0 := V3.out.cell
    have c0 := hp.c0
    have c1 := hp.c1
    have f0 := hp.free 0
    have hcap := hown.cap
    obtain ⟨hcap1', hcap2'⟩ := hcap
    unfold maxLen at hcap2'
    dsimp only at c0 c1 hcap1'
    have hac' : st.at_ ≤ c' := by omega
    clear hp hown
    go_still_tail 12, (by kernel_rfl)
    change wpList _ _ _ _ _ w3.drew
    have H4 := Lib.hid (H3.out.old (Old.drew w3))
    have C4 : Hid (w3.drew.cell? ⟨p, 0, none⟩ = some (.slice (some ⟨b, 0, none⟩) st.l.length c')) := c0
    have M4 := Lib.hid (M3.out.then_old (Old.drew w3))
    clear H3 M3
    go_wp2_with fail
    go_end0
    exact ⟨rfl, b, H4.out.set_front C4.out st.at_ hat (Nat.le_refl _), M4.out.set0 _, Or.inl rfl⟩
  · go_enter Tryd.func138, Tryd.ntmps138
    go_wp2_with fail
    go_still_tail 10, (by kernel_rfl)
    change wpList _ _ _ _ _ w.drew
    have H2 := Lib.hid (H.out.old (Old.drew w))
    have V2 := Lib.hid (HV.out.old (Old.drew w))
    have L2 := Lib.hid (HL.out.old (Old.drew w))
    have O2 := Lib.hid (Old.drew w)
    clear hv0 c0 c1 H HL
    generalize w.drew = w2 at H2 V2 O2 L2 ⊢
    go_wp2_with (go_at_call 103; refine (pushKill_any p b b st.at_ _ (st.l.length - st.at_) (st.l.drop st.at_) st w2 H2.out (by simp) (fun j hj => by rw [gi_drop]; exact L2.out.cell _ (by simp at hj; omega)) (by simp; omega)).mono ?_; rintro e w3 ⟨rfl, h3, m3⟩; have H3 := Lib.hid h3; have V3 := Lib.hid (V2.out.mod m3.weaken); have M3 := Lib.hid ((Mod.of_old O2.out).trans (m3.weaken (b := b)) (Or.inl rfl)); clear h3 m3 H2 V2 L2 O2)
    obtain ⟨c', kv', hp, hown, _, _, _, _, _, _⟩ := H3.out
    have hv0 := V3.out.cell
    have c0 := hp.c0
    have c1 := hp.c1
    have f0 := hp.free 0
    have hcap := hown.cap
    obtain ⟨hcap1', hcap2'⟩ := hcap
    unfold maxLen at hcap2'
    dsimp only at c0 c1 hcap1'
    have hac' : st.at_ ≤ c' := by omega
    clear hp hown
    go_still_tail 12, (by kernel_rfl)
    change wpList _ _ _ _ _ w3.drew
    have H4 := Lib.hid (H3.out.old (Old.drew w3))
    have C4 : Hid (w3.drew.cell? ⟨p, 0, none⟩ = some (.slice (some ⟨b, 0, none⟩) st.l.length c')) := c0
    have M4 := Lib.hid (M3.out.then_old (Old.drew w3))
    clear H3 M3
    go_wp2_with fail
    go_end0
    exact ⟨rfl, b, H4.out.set_front C4.out st.at_ hat (Nat.le_refl _), M4.out.set0 _, Or.inl rfl⟩

theorem Var.set1 {w : World} {v p b : Nat} (h : Var w v p b) (x : Value) : Var (w.setCell ⟨p, 1, none⟩ x) v p b := h.mod ((Mod.refl p b w).stored p 1 x (Or.inl rfl))

set_option maxHeartbeats 1000000 in
theorem era1_any (v p b : Nat) (st : St) (w : World) (h : RB w p b st) (hv : Var w v p b) :
    Calls Tryd.prog 106 #[.pointer (some ⟨v, 0, none⟩)] w fun e w' => e = .returned (.tuple #[]) ∧ Step p b { st with l := [], at_ := 0, kl := st.l } w w' := by
  have HV := Lib.hid (hv.set1 (.int .i64 0))
  have H1 : Hid (RB (w.setCell ⟨p, 1, none⟩ (.int .i64 0)) p b { st with at_ := 0 }) := h.set_at 0 (Nat.zero_le _)
  have M1 : Hid (Mod p b w (w.setCell ⟨p, 1, none⟩ (.int .i64 0))) := (Mod.refl p b w).stored p 1 _ (Or.inl rfl)
  obtain ⟨c, kv, hp, hown, hat, hl, hkl, hne, hk, ht⟩ := h
  clear ht
  have hv0 := hv.cell
  have c1 := hp.c1
  have f1 := hp.free 1
  clear hp hown hk hv
  go_enter Tryd.func106, Tryd.ntmps106
  go_wp2_with fail
  clear hv0 c1 f1
  generalize w.setCell ⟨p, 1, none⟩ (.int .i64 0) = w1 at H1 HV M1 ⊢
  obtain ⟨c, kv, hp, hown, _, _, _, _, _, _⟩ := H1.out
  have hv0 := HV.out.cell
  have c0 := hp.c0
  have HL := Lib.hid hown
  have hcap := hown.cap
  obtain ⟨hcap1, hcap2⟩ := hcap
  unfold maxLen at hcap2
  dsimp only at c0 hcap1
  clear hp hown
  go_still_tail 6, (by kernel_rfl)
  change wpList _ _ _ _ _ w1.drew
  have H2 := Lib.hid (H1.out.old (Old.drew w1))
  have V2 := Lib.hid (HV.out.old (Old.drew w1))
  have L2 := Lib.hid (HL.out.old (Old.drew w1))
  have O2 := Lib.hid (M1.out.then_old (Old.drew w1))
  clear hv0 c0 H1 HL HV M1
  generalize w1.drew = w2 at H2 V2 O2 L2 ⊢
  go_wp2_with (go_at_call 103; refine (pushKill_any p b b 0 c st.l.length st.l _ w2 H2.out rfl (fun j hj => by rw [Nat.zero_add]; exact L2.out.cell j hj) hl).mono ?_; rintro e w3 ⟨rfl, h3, m3⟩; have H3 := Lib.hid h3; have V3 := Lib.hid (V2.out.mod m3.weaken); have M3 := Lib.hid (O2.out.trans (m3.weaken (b := b)) (Or.inl rfl)); clear h3 m3 H2 V2 L2 O2)
  obtain ⟨c', kv', hp, hown, _, _, _, _, _, _⟩ := H3.out
  have hv0 := V3.out.cell
  have c0 := hp.c0
  have f0 := hp.free 0
  have hcap := hown.cap
  obtain ⟨hcap1', hcap2'⟩ := hcap
  unfold maxLen at hcap2'
  dsimp only at c0 hcap1'
  clear hp hown
  go_still_tail 8, (by kernel_rfl)
  change wpList _ _ _ _ _ w3.drew
  have H4 := Lib.hid (H3.out.old (Old.drew w3))
  have C4 : Hid (w3.drew.cell? ⟨p, 0, none⟩ = some (.slice (some ⟨b, 0, none⟩) st.l.length c')) := c0
  have M4 := Lib.hid (M3.out.then_old (Old.drew w3))
  clear H3 M3
  go_wp2_with fail
  go_end0
  exact ⟨rfl, b, H4.out.set_front C4.out 0 (Nat.zero_le _) (Nat.le_refl _), M4.out.set0 _, Or.inl rfl⟩

/-- The line's rest, copied to the front of its block. -/
theorem LB.copied {w : World} {b c n : Nat} {l : List Int} {cur : Array Value} {t : TypeId} (h : LB w b c l) (hn : n ≤ l.length) (hc : w.heap[b]? = some (.cells cur t (0, 0))) :
    LB (w.setRow b (cur.toList.take 0 ++ ((l.drop n).map (Value.int .i32) ++ cur.toList.drop (0 + ((l.drop n).map (Value.int .i32)).length))).toArray) b c (l.drop n) := by
  refine ⟨by simp, ?_⟩
  rcases h.2 with ⟨hv, _⟩ | ⟨g, cap, cur', hv, h1, h2, h3, h4, h5, h6⟩
  · cases hv
  · injection hv with hv1 hv2 hv3
    injection hv1 with hv1; injection hv1 with hv1
    subst hv1; subst hv3
    have e := Option.some.inj (hc.symm.trans h2)
    injection e with e1 e2 e3
    subst e1; subst e2
    refine .inr ⟨b, c, _, rfl, Nat.zero_le _, setRow_heap w b _ _ _ _ hc, by simp; omega, h4, ?_, ?_⟩
    · simp; omega
    · simp
theorem LB.row {w : World} {b c : Nat} {l : List Int} (h : LB w b c l) : ∃ cur, w.heap[b]? = some (.cells cur 21 (0, 0)) ∧ cur.size = c := by
  rcases h.2 with ⟨hv, _⟩ | ⟨g, cap, cur', hv, h1, h2, h3, h4, h5, h6⟩
  · cases hv
  · injection hv with hv1 hv2 hv3
    injection hv1 with hv1; injection hv1 with hv1
    subst hv1; subst hv3
    exact ⟨cur', h2, by omega⟩
theorem Mod.row {p b : Nat} {u w : World} (m : Mod p b u w) (x : Array Value) : Mod p b u (w.setRow b x) :=
  ⟨m.os, m.tape, m.output, by simp [World.setRow]; exact m.size, fun k hk h1 h2 => (setRow_other w b k x h2).trans (m.block k hk h1 h2)⟩

/-- What the copy to the front, and the stores behind it, leave. -/
theorem RB.fronted {w : World} {p b c m : Nat} {st : St} {cur : Array Value} (h : RB w p b st) (h0 : w.cell? ⟨p, 0, none⟩ = some (.slice (some ⟨b, 0, none⟩) m c)) (hc : w.heap[b]? = some (.cells cur 21 (0, 0))) (n k : Nat) (hn : n ≤ st.l.length) (hk : k = st.l.length - n) :
    RB (((w.setRow b (cur.toList.take 0 ++ ((st.l.drop n).map (Value.int .i32) ++ cur.toList.drop (0 + ((st.l.drop n).map (Value.int .i32)).length))).toArray).setCell ⟨p, 1, none⟩ (.int .i64 0)).setCell ⟨p, 0, none⟩ (.slice (some ⟨b, 0, none⟩) k c)) p b { st with l := st.l.drop n, at_ := 0 } := by
  subst hk
  obtain ⟨c', kv, h1, h2, h3, h4, h5, h6, h7, h8, h9⟩ := h
  have e := Option.some.inj (h1.c0.symm.trans h0)
  injection e with _ hm hcc
  subst hcc
  have hl : (st.l.drop n).length = st.l.length - n := by simp
  have hp := (h1.heap (setRow_other w b p (cur.toList.take 0 ++ ((st.l.drop n).map (Value.int .i32) ++ cur.toList.drop (0 + ((st.l.drop n).map (Value.int .i32)).length))).toArray h6)).set1 (.int .i64 0)
  have hL := (((h2.copied hn hc).other (Ne.symm h6) (j := 1) (.int .i64 0)).other (Ne.symm h6) (j := 0) (.slice (some ⟨b, 0, none⟩) (st.l.length - n) c'))
  have hM := (((Mod.refl p b w).row (cur.toList.take 0 ++ ((st.l.drop n).map (Value.int .i32) ++ cur.toList.drop (0 + ((st.l.drop n).map (Value.int .i32)).length))).toArray).stored p 1 (.int .i64 0) (Or.inl rfl)).stored p 0 (.slice (some ⟨b, 0, none⟩) (st.l.length - n) c') (Or.inl rfl)
  refine ⟨c', kv, ?_, hL, Nat.zero_le _, by show (st.l.drop n).length ≤ 1000; omega, h5, h6, h7.mod hM (Or.inl rfl), Nat.lt_of_lt_of_le h8 hM.size, h9⟩
  show PB _ p (.slice (some ⟨b, 0, none⟩) (st.l.drop n).length c') _ _
  rw [hl]; exact hp.set0 _
end Go.Proofs.YtlfmmmbafkelhaaDoor
