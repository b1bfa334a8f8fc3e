/- readline's RuneBuffer: all ahead of the cursor is taken out; the methods. -/
import Derived.Test.YtlfmmmbafkelhaaDoorKill
namespace Go.Proofs.YtlfmmmbafkelhaaDoor
open Go.RowKit
set_option linter.unusedVariables false
set_option linter.unusedSimpArgs false
set_option maxRecDepth 100000

theorem ints_one (l : List Int) : ∀ v ∈ l.map (Value.int .i32), v.oneCell' = true := by
  intro u hu
  obtain ⟨q, _, rfl⟩ := List.mem_map.1 hu
  rfl

set_option maxHeartbeats 1000000 in
theorem kf1_zero (v p b : Nat) (st : St) (w : World) (h : RB w p b st) (hv : Var w v p b) (h0 : st.at_ = 0) :
    Calls Tryd.prog 139 #[.pointer (some ⟨v, 0, none⟩)] w fun e w' => e = .returned (.tuple #[]) ∧ Step p b st w w' := by
  have H := Lib.hid h
  obtain ⟨c, kv, hp, hown, hat, hl, hkl, hne, hk, ht⟩ := h
  have hv0 := hv.cell
  have c1 := hp.c1
  rw [h0] at c1
  clear hp hown hk ht h0 hat
  go_enter Tryd.func139, Tryd.ntmps139
  go_wp2_with fail
  refine bodyPost_ret (results_none rfl _ _ _) rfl ?_
  exact ⟨rfl, Step.same H.out (Old.refl w) rfl⟩

set_option maxHeartbeats 2000000 in
theorem kf1_pos (v p b : Nat) (st : St) (w : World) (h : RB w p b st) (hv : Var w v p b) (h0 : st.at_ ≠ 0) :
    Calls Tryd.prog 139 #[.pointer (some ⟨v, 0, none⟩)] w fun e w' => e = .returned (.tuple #[]) ∧ Step p b { st with l := st.l.drop st.at_, at_ := 0, kl := st.l.take st.at_ } w w' := by
  have H := Lib.hid h
  have HV := Lib.hid hv
  obtain ⟨c, kv, hp, hown, hat, hl, hkl, hne, hk, ht⟩ := h
  clear ht
  have hv0 := hv.cell
  have c0 := hp.c0
  have c1 := hp.c1
  have d1 : ((st.at_ : Int) == 0) = false := by simp; omega
  obtain ⟨m, hm⟩ : ∃ m, m = st.l.length - st.at_ := ⟨_, rfl⟩
  have e1 : IntKind.i64.wrap ((st.l.length : Int) - st.at_) = (m : Int) := by rw [IntWalk.i64_in _ (by omega)]; omega
  have HM := Lib.hid hm
  clear hp hown hk hv h0 hm
  go_enter Tryd.func139, Tryd.ntmps139
  go_wp2_with fail
  go_quiet (fail)
  go_wp2_with fail
  have H1 := Lib.hid (H.out.old (Old.drewN w nq))
  have V1 := Lib.hid (HV.out.old (Old.drewN w nq))
  have O1 := Lib.hid (Old.drewN w nq)
  clear hv0 c0 c1 H HV
  generalize w.drewN nq = w1 at H1 V1 O1 ⊢
  obtain ⟨c, kv, hp, hown, _, _, _, _, hk, _⟩ := H1.out
  have hv0 := V1.out.cell
  have c0 := hp.c0
  have c1 := hp.c1
  have hcap := hown.cap
  obtain ⟨hcap1, hcap2⟩ := hcap
  unfold maxLen at hcap2
  have HL := Lib.hid hown
  have hac : st.at_ ≤ c := by omega
  clear hp hown hk
  go_still_tail 10, (by kernel_rfl)
  change wpList _ _ _ _ _ w1.drew
  have H2 := Lib.hid (H1.out.old (Old.drew w1))
  have V2 := Lib.hid (V1.out.old (Old.drew w1))
  have L2 := Lib.hid (HL.out.old (Old.drew w1))
  have O2 := Lib.hid (O1.out.trans (Old.drew w1))
  clear hv0 c0 c1 H1 HL V1 O1
  generalize w1.drew = w2 at H2 V2 O2 L2 ⊢
  go_wp2_with (go_at_call 103; refine (pushKill_any p b b 0 c st.at_ (st.l.take st.at_) st w2 H2.out (by simp; omega) (fun j hj => by rw [Nat.zero_add, gi_take (by simp at hj; omega)]; exact L2.out.cell j (by simp at hj; omega)) (by simp; omega)).mono ?_; rintro e w3 ⟨rfl, h3, m3⟩; have H3 := Lib.hid h3; have V3 := Lib.hid (V2.out.mod m3.weaken); have M3 := Lib.hid ((Mod.of_old O2.out).trans (m3.weaken (b := b)) (Or.inl rfl)); clear h3 m3 H2 V2 L2 O2)
  obtain ⟨c', kv', hp, hown, _, _, _, _, _, _⟩ := H3.out
  have hv0 := V3.out.cell
  have c0 := hp.c0
  have c1 := hp.c1
  have hcap := hown.cap
  obtain ⟨hcap1', hcap2'⟩ := hcap
  unfold maxLen at hcap2'
  dsimp only at c0 c1 hcap1'
  have hac' : st.at_ ≤ c' := by omega
  have hmc : (m : Int) ≤ c' := by have := HM.out; omega
  have HL := Lib.hid hown
  clear hp hown
  by_cases hm0 : m = 0
  · subst hm0
    have hd : Hid (st.l.drop st.at_ = []) := List.drop_eq_nil_of_le (by have := HM.out; omega)
    by_cases hcc : c' = st.at_
    all_goals
      try subst hcc
      go_still_tail 15, (by kernel_rfl)
      change wpList _ _ _ _ _ w3.drew
      have H4 := Lib.hid (H3.out.old (Old.drew w3))
      have V4 := Lib.hid (V3.out.old (Old.drew w3))
      have M4 := Lib.hid (M3.out.then_old (Old.drew w3))
      clear H3 M3 V3 HL hv0 c0 c1
      generalize w3.drew = w4 at H4 V4 M4 ⊢
      refine wpList_copy_nothing rfl _ _ 54 54 rfl 21 Tryd.underlying54 (by kernel_rfl) _ _ _ _ _ _ rfl rfl (by first | rfl | (show min _ _ = 0; omega)) ?_
      have H5 := Lib.hid (H4.out.set_at 0 (Nat.zero_le _))
      have V5 := Lib.hid (V4.out.set1 (.int .i64 ((0 : Nat) : Int)))
      have M5 := Lib.hid (M4.out.stored p 1 (.int .i64 ((0 : Nat) : Int)) (Or.inl rfl))
      obtain ⟨c5, kv5, hp5, _⟩ := H4.out
      have hv0 := V4.out.cell
      have c1 := hp5.c1
      have f1 := hp5.free 1
      clear H4 V4 M4 hp5
      go_wp2_with fail
      have hE : w4.setCell ⟨p, 1, none⟩ (.int .i64 0) = w4.setCell ⟨p, 1, none⟩ (.int .i64 ((0 : Nat) : Int)) := rfl
      try rw [hE]
      clear hv0 c1 f1 hE
      generalize w4.setCell ⟨p, 1, none⟩ (.int .i64 ((0 : Nat) : Int)) = w5 at H5 V5 M5 ⊢
      obtain ⟨c6, kv6, hp6, hown6, _⟩ := H5.out
      have hv0 := V5.out.cell
      have c0 := hp6.c0
      have f0 := hp6.free 0
      dsimp only at c0
      clear hp6 hown6
      go_still_tail 9, (by kernel_rfl)
      change wpList _ _ _ _ _ w5.drew
      have C6 : Hid (w5.drew.cell? ⟨p, 0, none⟩ = some (.slice (some ⟨b, 0, none⟩) st.l.length c6)) := c0
      have H6 := Lib.hid (H5.out.old (Old.drew w5))
      have M6 := Lib.hid (M5.out.then_old (Old.drew w5))
      clear H5 M5
      go_wp2_with fail
      go_end0
      refine ⟨rfl, b, ?_, M6.out.set0 _, Or.inl rfl⟩
      rw [hd.out]
      exact H6.out.set_front C6.out 0 (Nat.zero_le _) (Nat.le_refl _)
  · have hcc : ¬ c' = st.at_ := by have := HM.out; omega
    go_still_tail 15, (by kernel_rfl)
    change wpList _ _ _ _ _ w3.drew
    have H4 := Lib.hid (H3.out.old (Old.drew w3))
    have V4 := Lib.hid (V3.out.old (Old.drew w3))
    have L4 := Lib.hid (HL.out.old (Old.drew w3))
    have C4 : Hid (w3.drew.cell? ⟨p, 0, none⟩ = some (.slice (some ⟨b, 0, none⟩) st.l.length c')) := c0
    have M4 := Lib.hid (M3.out.then_old (Old.drew w3))
    clear H3 M3 V3 HL hv0 c0 c1
    generalize w3.drew = w4 at H4 V4 L4 C4 M4 ⊢
    obtain ⟨cur, hcur, hsz⟩ := L4.out.row
    refine wpList_copy_own rfl _ _ 54 54 rfl 21 Tryd.underlying54 (by kernel_rfl) b 0 m c' ⟨b, st.at_, none⟩ (st.l.length - st.at_) (c' - st.at_) rfl rfl cur 21 hcur ((st.l.drop st.at_).map (Value.int .i32)) (by rw [List.length_map, List.length_drop]; show _ = min _ _; have := HM.out; omega) (fun j v hj => by
      obtain ⟨h1, rfl⟩ := getElem_map_int hj
      have hadd : (⟨b, st.at_, none⟩ : Addr).add j = ⟨b, st.at_ + j, none⟩ := by unfold Addr.add; split <;> simp_all
      rw [hadd, gi_drop]; exact L4.out.cell (st.at_ + j) (by simp at h1; simp; omega)) (by simp; omega) (ints_one _) ?_
    have FR := Lib.hid (H4.out.fronted C4.out hcur st.at_ m hat HM.out)
    have M5 := Lib.hid (M4.out.row (cur.toList.take 0 ++ ((st.l.drop st.at_).map (Value.int .i32) ++ cur.toList.drop (0 + ((st.l.drop st.at_).map (Value.int .i32)).length))).toArray)
    have V5 := Lib.hid (V4.out.mod ((Mod.refl p b w4).row (cur.toList.take 0 ++ ((st.l.drop st.at_).map (Value.int .i32) ++ cur.toList.drop (0 + ((st.l.drop st.at_).map (Value.int .i32)).length))).toArray))
    obtain ⟨c5, kv5, hp5, _⟩ := H4.out
    have hp6 := hp5.heap (setRow_other w4 b p (cur.toList.take 0 ++ ((st.l.drop st.at_).map (Value.int .i32) ++ cur.toList.drop (0 + ((st.l.drop st.at_).map (Value.int .i32)).length))).toArray hne)
    have hc6 := Option.some.inj (hp5.c0.symm.trans C4.out)
    injection hc6 with _ _ hc6
    subst hc6
    clear H4 V4 L4 C4 M4 hcur hp5
    generalize w4.setRow b (cur.toList.take 0 ++ ((st.l.drop st.at_).map (Value.int .i32) ++ cur.toList.drop (0 + ((st.l.drop st.at_).map (Value.int .i32)).length))).toArray = w5 at FR M5 V5 hp6 ⊢
    have hv0 := V5.out.cell
    have c0 := hp6.c0
    have c1 := hp6.c1
    have f0 := hp6.free 0
    have f1 := hp6.free 1
    have HP := Lib.hid (hp6.set1 (.int .i64 0))
    have V6 := Lib.hid (V5.out.set1 (.int .i64 0))
    have M6 := Lib.hid (M5.out.stored p 1 (.int .i64 0) (Or.inl rfl))
    clear hp6 V5 M5
    go_wp2_with fail
    clear hv0 c0 c1 f0 f1
    generalize w5.setCell ⟨p, 1, none⟩ (.int .i64 0) = w6 at FR HP V6 M6 ⊢
    have hv0 := V6.out.cell
    have c0 := HP.out.c0
    have f0 := HP.out.free 0
    go_still_tail 9, (by kernel_rfl)
    change wpList _ _ _ _ _ w6.drew
    go_wp2_with fail
    go_end0
    have RR : RB (w6.drew.setCell ⟨p, 0, none⟩ (.slice (some ⟨b, 0, none⟩) m c5)) p b { st with l := st.l.drop st.at_, at_ := 0, kl := st.l.take st.at_ } := FR.out.old (Old.drew _)
    exact ⟨rfl, b, RR, (M6.out.then_old (Old.drew w6)).set0 _, Or.inl rfl⟩

/-- The state behind KillFront. -/
def kfSt (st : St) : St := if st.at_ = 0 then st else { st with l := st.l.drop st.at_, at_ := 0, kl := st.l.take st.at_ }
theorem kf1_any (v p b : Nat) (st : St) (w : World) (h : RB w p b st) (hv : Var w v p b) :
    Calls Tryd.prog 139 #[.pointer (some ⟨v, 0, none⟩)] w fun e w' => e = .returned (.tuple #[]) ∧ Step p b (kfSt st) w w' := by
  unfold kfSt
  by_cases h0 : st.at_ = 0
  · rw [if_pos h0]; exact kf1_zero v p b st w h hv h0
  · rw [if_neg h0]; exact kf1_pos v p b st w h hv h0

theorem kill_any (p b : Nat) (st : St) (w : World) (h : RB w p b st) :
    Calls Tryd.prog 114 #[.pointer (some ⟨p, 0, none⟩)] w fun e w' => e = .returned (.tuple #[]) ∧ Step p b { st with l := st.l.take st.at_, kl := st.l.drop st.at_ } w w' := by
  have H := Lib.hid h
  have hmf : ∀ (fn : Fn) (first cap : Array Value) (w : World), (Instr.makeFunc fn first cap).run Tryd.prog w = .ok (.func fn first cap) w := fun _ _ _ _ => rfl
  clear h
  go_enter Tryd.func114, Tryd.ntmps114
  go_wp2_with (go_at_call 84; refine (refresh_any 138 _ _ _ (Step p b { st with l := st.l.take st.at_, kl := st.l.drop st.at_ } (w.alloc (.cells #[.pointer (some ⟨p, 0, none⟩)] 63))) (fun _ => by kernel_rfl) (kill1_any _ p b st _ (H.out.old (Old.alloc _ _)) H.out.var)).mono ?_; rintro e w1 ⟨rfl, h1⟩)
  go_end0
  exact ⟨rfl, h1.from_old (Old.alloc _ _)⟩

theorem era_any (p b : Nat) (st : St) (w : World) (h : RB w p b st) :
    Calls Tryd.prog 78 #[.pointer (some ⟨p, 0, none⟩)] w fun e w' => e = .returned (.tuple #[]) ∧ Step p b { st with l := [], at_ := 0, kl := st.l } w w' := by
  have H := Lib.hid h
  have hmf : ∀ (fn : Fn) (first cap : Array Value) (w : World), (Instr.makeFunc fn first cap).run Tryd.prog w = .ok (.func fn first cap) w := fun _ _ _ _ => rfl
  clear h
  go_enter Tryd.func78, Tryd.ntmps78
  go_wp2_with (go_at_call 84; refine (refresh_any 106 _ _ _ (Step p b { st with l := [], at_ := 0, kl := st.l } (w.alloc (.cells #[.pointer (some ⟨p, 0, none⟩)] 63))) (fun _ => by kernel_rfl) (era1_any _ p b st _ (H.out.old (Old.alloc _ _)) H.out.var)).mono ?_; rintro e w1 ⟨rfl, h1⟩)
  go_end0
  exact ⟨rfl, h1.from_old (Old.alloc _ _)⟩

theorem kf_any (p b : Nat) (st : St) (w : World) (h : RB w p b st) :
    Calls Tryd.prog 115 #[.pointer (some ⟨p, 0, none⟩)] w fun e w' => e = .returned (.tuple #[]) ∧ Step p b (kfSt st) w w' := by
  have H := Lib.hid h
  have hmf : ∀ (fn : Fn) (first cap : Array Value) (w : World), (Instr.makeFunc fn first cap).run Tryd.prog w = .ok (.func fn first cap) w := fun _ _ _ _ => rfl
  clear h
  go_enter Tryd.func115, Tryd.ntmps115
  go_wp2_with (go_at_call 84; refine (refresh_any 139 _ _ _ (Step p b (kfSt st) (w.alloc (.cells #[.pointer (some ⟨p, 0, none⟩)] 63))) (fun _ => by kernel_rfl) (kf1_any _ p b st _ (H.out.old (Old.alloc _ _)) H.out.var)).mono ?_; rintro e w1 ⟨rfl, h1⟩)
  go_end0
  exact ⟨rfl, h1.from_old (Old.alloc _ _)⟩
end Go.Proofs.YtlfmmmbafkelhaaDoor
