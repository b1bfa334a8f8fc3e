/- (*Buffer).Delete. (Printed by mkbufx.py.) -/
import Derived.Test.YtleamondilmojaaDoorBufI
namespace Go.Proofs.YtleamondilmojaaDoor
open Go.RowKit
set_option linter.unusedVariables false
set_option linter.unusedSimpArgs false
set_option linter.unnecessarySimpa false
set_option maxRecDepth 100000

theorem delM_tx (l : Bs) (k n : Nat) : tx (l.take k) ++ tx (l.drop (k + n)) = tx (delM l k n) := tx_append _ _
theorem ret_str9 {a b : Bs} (h : a = b) : Ending.returned (.string (tx a)) = .returned (.string (tx b)) := by rw [h]
theorem ext_preE {l : Bs} {k : Nat} : (tx l).extract 0 k = tx (l.take k) := by rw [extract_eq, bs_tx]; rfl
/-- What taking out leaves, and hands back. -/
def TakePost (bp lb : Nat) (l : Bs) (k : Nat) (pc : Int) (t : Bs) (w : World) (e : Ending) (w' : World) : Prop := e = .returned (.string (tx t)) ∧ BE w' bp lb l k pc ∧ Two bp lb w w'
set_option maxHeartbeats 2000000 in
theorem del_any (bp lb : Nat) (l : Bs) (k : Nat) (pc : Int) (dv : Value) (w : World) (h : B9 w bp lb l k pc dv) (hk : k ≤ l.length) (ok : okT l) (n : Nat) (hn0 : k < l.length → k + n ≤ l.length) :
    Calls Tryd.prog 87 #[.pointer (some ⟨bp, 0, none⟩), .int .i64 n] w (TakePost bp lb (if k < l.length then delM l k n else l) k pc (if k < l.length then (l.drop k).take n else []) w) := by
  have H := Lib.hid h
  have c2 := h.c2
  have OK := Lib.hid ok
  have hn := ok.n
  have hbl := h.lt.1
  have hll := h.lt.2
  clear h ok
  go_enter Tryd.func87, Tryd.ntmps87
  go_upto_region 2 with (first
    | (go_at_call 62; refine (text_any bp lb l k pc dv w H.out).mono ?_; rintro e w1 ⟨rfl, q, rfl⟩)
    | (refine wpList_runes rfl 9 42 21 _ (tx l) rfl rfl (by kernel_rfl) (by kernel_rfl) (by kernel_rfl) (by rw [tx_size]; omega) ?_; intro vv w2 o2 r2 hv2 own2; have O2 := Lib.hid ((Old.drewN w q).trans o2); have B2 := Lib.hid (H.out.old O2.out); have e2 := B2.out.c2; rw [runes_tx OK.out] at hv2 r2 own2; obtain ⟨vb, vc, rfl⟩ := hv2; rw [List.length_map] at r2 own2; rw [List.length_map]; have OW := Lib.hid own2; have R2 := Lib.hid r2; obtain ⟨_, _, _, eq, q1, q2, _⟩ := r2; injection eq with eq1 eq2 eq3; subst eq3; rw [List.length_map] at q1; unfold maxLen at q2; have i1 : (k : Int) ≤ vc := (by omega); clear o2 own2 eq1 eq2))
  by_cases hlt : k < l.length
  · rw [if_pos hlt, if_pos hlt]
    have hkn := hn0 hlt
    have i2 : (n : Int) ≤ (l.drop k).length := by rw [List.length_drop]; omega
    have hex : (tx (l.drop k)).extract 0 n = tx ((l.drop k).take n) := ext_preE
    have hsd : (tx (l.drop k)).size = (l.drop k).length := tx_size _
    have NE : Hid (vb ≠ bp ∧ vb ≠ lb) := by
      have h1 := (own_lt OW.out).1
      have h2 : (w.drewN q).heap.size = w.heap.size := rfl
      exact ⟨by omega, by omega⟩
    have RD := Lib.hid (show RunesAt w2 (.slice (some ⟨vb, 0, none⟩) l.length vc) (l.map fun c => (c.toNat : Int)) from R2.out)
    have hst : ((l.drop k).take n).length = n := by rw [List.length_take, List.length_drop]; omega
    have hstx : (tx ((l.drop k).take n)).size = n := by rw [tx_size]; exact hst
    have KA : Hid (∀ w', Two bp lb w2 w' → RunesAt w' (.slice (some ⟨vb, 0, none⟩) l.length vc) (l.map fun c => (c.toNat : Int))) := fun w' t => runesAt_two R2.out t NE.out.1 NE.out.2
    clear hst
    obtain ⟨tk, htk⟩ : ∃ tk, tk = (l.drop k).take n := ⟨_, rfl⟩
    rw [← htk] at hex hstx
    have HTK := Lib.hid htk
    clear htk
    go_upto_region 4 with (first
      | (go_at_call 106; refine (doc_any bp lb l k pc dv w2 B2.out).mono ?_; rintro e w3 ⟨dp, rfl, d3, b3, t3, n31, n32⟩; have D3 := Lib.hid d3; have B3 := Lib.hid b3; have T3 := Lib.hid t3; clear d3 b3 t3 n31 n32)
      | (go_at_call 37; refine (ta_any dp l k w3 D3.out hk OK.out).mono ?_; rintro e w4 ⟨rfl, o4⟩; have B4 := Lib.hid (B3.out.old o4); have T4 := Lib.hid (T3.out.old o4); clear o4))
    have T0 : TI w bp lb l (delM l k n) k pc (.pointer (some ⟨dp, 0, none⟩)) vb vc false w4.drew := ⟨B4.out.old (Old.drew _), ((Two.of_old O2.out).trans T4.out).old (Old.drew _), KA.out _ (T4.out.old (Old.drew _))⟩
    obtain ⟨m, hm⟩ : ∃ m, m = k + n := ⟨_, rfl⟩
    have hap1 := delM_tx l k n
    rw [← hm] at hap1
    have hcat : ¬ 9223372036854775807 < (tx (l.take k)).size + (tx (l.drop m)).size := by
      have h1 := (OK.out.take k).n
      have h2 := (OK.out.drop m).n
      rw [tx_size, tx_size]; omega
    have i3 : (0 : Int) ≤ m := by omega
    have i4 : (m : Int) ≤ l.length := by omega
    have i5 : (m : Int) ≤ vc := by omega
    have e0 : (((l.length : Int) - m).toNat) = l.length - m := by omega
    rcases Nat.lt_or_ge m vc with hv | hv
    · have hne : ¬ vc = m := by omega
      have HM : Hid (m ≤ l.length ∧ l.length - m ≤ vc - m ∧ vc - m ≤ maxLen) := ⟨by omega, by omega, by unfold maxLen; omega⟩
      have f1 : IntKind.i64.wrap ((k : Int) + n) = (m : Int) := by rw [IntWalk.i64_in _ (by omega)]; omega
      clear hm
      refine wp_region_noPanic ?_
      refine wp_region_T (TI w bp lb l (delM l k n) k pc (.pointer (some ⟨dp, 0, none⟩)) vb vc) 19 (by kernel_rfl) (T0) ?_
      refine wpT_take (i := 0) (v := ?_) rfl (by kernel_rfl) (by kernel_rfl) (by kernel_rfl) (Or.inl ⟨by rfl, ?_⟩) ?_
      rotate_left
      · (intro b hb w hT; go_simp; exact Lands.value hT)
      try simp only [Act.put, List.getElem_toArray, List.getElem_cons_succ, List.getElem_cons_zero, List.setIfInBounds_toArray, List.set_cons_zero, List.set_cons_succ]
      refine wpT_take (i := 1) (v := ?_) rfl (by kernel_rfl) (by kernel_rfl) (by kernel_rfl) (Or.inl ⟨by rfl, ?_⟩) ?_
      rotate_left
      · (intro b hb w hT; go_simp; exact Lands.value hT)
      try simp only [Act.put, List.getElem_toArray, List.getElem_cons_succ, List.getElem_cons_zero, List.setIfInBounds_toArray, List.set_cons_zero, List.set_cons_succ]
      refine wpT_take (i := 2) (v := ?_) rfl (by kernel_rfl) (by kernel_rfl) (by kernel_rfl) (Or.inl ⟨by rfl, ?_⟩) ?_
      rotate_left
      · (intro b hb w hT; go_simp; exact Lands.value hT)
      try simp only [Act.put, List.getElem_toArray, List.getElem_cons_succ, List.getElem_cons_zero, List.setIfInBounds_toArray, List.set_cons_zero, List.set_cons_succ]
      refine wpT_take (i := 3) (v := ?_) rfl (by kernel_rfl) (by kernel_rfl) (by kernel_rfl) (Or.inl ⟨by rfl, ?_⟩) ?_
      rotate_left
      · (intro b hb w hT; go_simp; exact Lands.value hT)
      try simp only [Act.put, List.getElem_toArray, List.getElem_cons_succ, List.getElem_cons_zero, List.setIfInBounds_toArray, List.set_cons_zero, List.set_cons_succ]
      refine wpT_take (i := 4) (v := ?_) rfl (by kernel_rfl) (by kernel_rfl) (by kernel_rfl) (Or.inl ⟨by rfl, ?_⟩) ?_
      rotate_left
      · (intro b hb w hT; go_simp; exact Lands.value hT)
      try simp only [Act.put, List.getElem_toArray, List.getElem_cons_succ, List.getElem_cons_zero, List.setIfInBounds_toArray, List.set_cons_zero, List.set_cons_succ]
      refine wpT_take (i := 5) (v := ?_) rfl (by kernel_rfl) (by kernel_rfl) (by kernel_rfl) (Or.inl ⟨by rfl, ?_⟩) ?_
      rotate_left
      · (intro b hb w hT; have c2 := hT.1.c2; go_simp; exact Lands.value hT)
      try simp only [Act.put, List.getElem_toArray, List.getElem_cons_succ, List.getElem_cons_zero, List.setIfInBounds_toArray, List.set_cons_zero, List.set_cons_succ]
      refine wpT_take (i := 6) (v := ?_) rfl (by kernel_rfl) (by kernel_rfl) (by kernel_rfl) (Or.inl ⟨by rfl, ?_⟩) ?_
      rotate_left
      · (intro b hb w hT; go_simp; exact Lands.value hT)
      try simp only [Act.put, List.getElem_toArray, List.getElem_cons_succ, List.getElem_cons_zero, List.setIfInBounds_toArray, List.set_cons_zero, List.set_cons_succ]
      refine wpT_take (i := 7) (v := .string (tx (l.take k))) rfl (by kernel_rfl) (by kernel_rfl) (by kernel_rfl) (Or.inl ⟨by rfl, ?_⟩) ?_
      · (intro b hb w hT; refine Lands.conv (w1 := w) 42 9 _ _ rfl rfl ((runes_back w 42 9 21 _ _ (by kernel_rfl) (by kernel_rfl) (by kernel_rfl) (hT.2.2.pre hk)).trans (by rw [back_tx (OK.out.take k)])) ?_; exact hT)
      try simp only [Act.put, List.getElem_toArray, List.getElem_cons_succ, List.getElem_cons_zero, List.setIfInBounds_toArray, List.set_cons_zero, List.set_cons_succ]
      refine wpT_take (i := 8) (v := ?_) rfl (by kernel_rfl) (by kernel_rfl) (by kernel_rfl) (Or.inl ⟨by rfl, ?_⟩) ?_
      rotate_left
      · (intro b hb w hT; go_simp; exact Lands.value hT)
      try simp only [Act.put, List.getElem_toArray, List.getElem_cons_succ, List.getElem_cons_zero, List.setIfInBounds_toArray, List.set_cons_zero, List.set_cons_succ]
      refine wpT_take (i := 9) (v := ?_) rfl (by kernel_rfl) (by kernel_rfl) (by kernel_rfl) (Or.inl ⟨by rfl, ?_⟩) ?_
      rotate_left
      · (intro b hb w hT; go_simp; exact Lands.value hT)
      try simp only [Act.put, List.getElem_toArray, List.getElem_cons_succ, List.getElem_cons_zero, List.setIfInBounds_toArray, List.set_cons_zero, List.set_cons_succ]
      refine wpT_take (i := 10) (v := ?_) rfl (by kernel_rfl) (by kernel_rfl) (by kernel_rfl) (Or.inl ⟨by rfl, ?_⟩) ?_
      rotate_left
      · (intro b hb w hT; go_simp; exact Lands.value hT)
      try simp only [Act.put, List.getElem_toArray, List.getElem_cons_succ, List.getElem_cons_zero, List.setIfInBounds_toArray, List.set_cons_zero, List.set_cons_succ]
      refine wpT_take (i := 11) (v := ?_) rfl (by kernel_rfl) (by kernel_rfl) (by kernel_rfl) (Or.inl ⟨by rfl, ?_⟩) ?_
      rotate_left
      · (intro b hb w hT; go_simp; exact Lands.value hT)
      try simp only [Act.put, List.getElem_toArray, List.getElem_cons_succ, List.getElem_cons_zero, List.setIfInBounds_toArray, List.set_cons_zero, List.set_cons_succ]
      refine wpT_take (i := 12) (v := ?_) rfl (by kernel_rfl) (by kernel_rfl) (by kernel_rfl) (Or.inl ⟨by rfl, ?_⟩) ?_
      rotate_left
      · (intro b hb w hT; have c2 := hT.1.c2; go_simp; exact Lands.value hT)
      try simp only [Act.put, List.getElem_toArray, List.getElem_cons_succ, List.getElem_cons_zero, List.setIfInBounds_toArray, List.set_cons_zero, List.set_cons_succ]
      refine wpT_take (i := 13) (v := ?_) rfl (by kernel_rfl) (by kernel_rfl) (by kernel_rfl) (Or.inl ⟨by rfl, ?_⟩) ?_
      rotate_left
      · (intro b hb w hT; go_simp; exact Lands.value hT)
      try simp only [Act.put, List.getElem_toArray, List.getElem_cons_succ, List.getElem_cons_zero, List.setIfInBounds_toArray, List.set_cons_zero, List.set_cons_succ]
      refine wpT_take (i := 14) (v := .int .i64 n) rfl (by kernel_rfl) (by kernel_rfl) (by kernel_rfl) (Or.inl ⟨by rfl, ?_⟩) ?_
      · (intro b hb w hT; go_simp; exact Lands.value hT)
      try simp only [Act.put, List.getElem_toArray, List.getElem_cons_succ, List.getElem_cons_zero, List.setIfInBounds_toArray, List.set_cons_zero, List.set_cons_succ]
      refine wpT_take (i := 15) (v := .int .i64 m) rfl (by kernel_rfl) (by kernel_rfl) (by kernel_rfl) (Or.inl ⟨by rfl, ?_⟩) ?_
      · (intro b hb w hT; go_simp; exact Lands.value hT)
      try simp only [Act.put, List.getElem_toArray, List.getElem_cons_succ, List.getElem_cons_zero, List.setIfInBounds_toArray, List.set_cons_zero, List.set_cons_succ]
      refine wpT_take (i := 16) (v := .slice (some ⟨vb, m, none⟩) (l.length - m) (vc - m)) rfl (by kernel_rfl) (by kernel_rfl) (by kernel_rfl) (Or.inl ⟨by rfl, ?_⟩) ?_
      · (intro b hb w hT; go_simp; exact Lands.value hT)
      try simp only [Act.put, List.getElem_toArray, List.getElem_cons_succ, List.getElem_cons_zero, List.setIfInBounds_toArray, List.set_cons_zero, List.set_cons_succ]
      refine wpT_take (i := 17) (v := .string (tx (l.drop m))) rfl (by kernel_rfl) (by kernel_rfl) (by kernel_rfl) (Or.inl ⟨by rfl, ?_⟩) ?_
      · (intro b hb w hT; refine Lands.conv (w1 := w) 42 9 _ _ rfl rfl ((runes_back w 42 9 21 _ _ (by kernel_rfl) (by kernel_rfl) (by kernel_rfl) (hT.2.2.post HM.out.1 m (vc - m) (fun _ => rfl) HM.out.2.1 HM.out.2.2)).trans (by rw [back_tx (OK.out.drop m)])) ?_; exact hT)
      try simp only [Act.put, List.getElem_toArray, List.getElem_cons_succ, List.getElem_cons_zero, List.setIfInBounds_toArray, List.set_cons_zero, List.set_cons_succ]
      refine wpT_take (i := 18) (v := .string (tx (delM l k n))) rfl (by kernel_rfl) (by kernel_rfl) (by kernel_rfl) (Or.inl ⟨by rfl, ?_⟩) ?_
      · (intro b hb w hT; go_simp; exact Lands.value hT)
      try simp only [Act.put, List.getElem_toArray, List.getElem_cons_succ, List.getElem_cons_zero, List.setIfInBounds_toArray, List.set_cons_zero, List.set_cons_succ]
      refine wpT_take (i := 19) (v := .tuple #[]) rfl (by kernel_rfl) (by kernel_rfl) (by kernel_rfl) (Or.inl ⟨by rfl, ?_⟩) ?_
      · (intro b hb w hT; obtain rfl : b = false := hb rfl; go_simp; exact Lands.enter ((setText_any bp lb l (delM l k n) k pc _ w hT.1).mono fun e w' h => ⟨h.1, hT.set h.2.1 h.2.2 NE.out.1 NE.out.2⟩))
      try simp only [Act.put, List.getElem_toArray, List.getElem_cons_succ, List.getElem_cons_zero, List.setIfInBounds_toArray, List.set_cons_zero, List.set_cons_succ]
      refine wpT_done (by kernel_rfl) ?_ _
      intro wt hT
      refine NoPanic.normal ?_
      have BZ : Hid (B9 wt bp lb (delM l k n) k pc (.pointer (some ⟨dp, 0, none⟩))) := hT.1
      have TZ := Lib.hid hT.2.1
      clear hT T0
      go_wp2_with fail
      clear f1
      go_ret
      exact ⟨ret_str9 HTK.out, ⟨_, BZ.out⟩, TZ.out⟩
    · have hv2 : m = vc := by omega
      subst hv2
      have e9 : l.length - m = 0 := by omega
      have HM : Hid (l.length ≤ m) := by unfold Hid; omega
      have f1 : IntKind.i64.wrap ((k : Int) + n) = (m : Int) := by rw [IntWalk.i64_in _ (by omega)]; omega
      clear hm
      refine wp_region_noPanic ?_
      refine wp_region_T (TI w bp lb l (delM l k n) k pc (.pointer (some ⟨dp, 0, none⟩)) vb m) 19 (by kernel_rfl) (T0) ?_
      refine wpT_take (i := 0) (v := ?_) rfl (by kernel_rfl) (by kernel_rfl) (by kernel_rfl) (Or.inl ⟨by rfl, ?_⟩) ?_
      rotate_left
      · (intro b hb w hT; go_simp; exact Lands.value hT)
      try simp only [Act.put, List.getElem_toArray, List.getElem_cons_succ, List.getElem_cons_zero, List.setIfInBounds_toArray, List.set_cons_zero, List.set_cons_succ]
      refine wpT_take (i := 1) (v := ?_) rfl (by kernel_rfl) (by kernel_rfl) (by kernel_rfl) (Or.inl ⟨by rfl, ?_⟩) ?_
      rotate_left
      · (intro b hb w hT; go_simp; exact Lands.value hT)
      try simp only [Act.put, List.getElem_toArray, List.getElem_cons_succ, List.getElem_cons_zero, List.setIfInBounds_toArray, List.set_cons_zero, List.set_cons_succ]
      refine wpT_take (i := 2) (v := ?_) rfl (by kernel_rfl) (by kernel_rfl) (by kernel_rfl) (Or.inl ⟨by rfl, ?_⟩) ?_
      rotate_left
      · (intro b hb w hT; go_simp; exact Lands.value hT)
      try simp only [Act.put, List.getElem_toArray, List.getElem_cons_succ, List.getElem_cons_zero, List.setIfInBounds_toArray, List.set_cons_zero, List.set_cons_succ]
      refine wpT_take (i := 3) (v := ?_) rfl (by kernel_rfl) (by kernel_rfl) (by kernel_rfl) (Or.inl ⟨by rfl, ?_⟩) ?_
      rotate_left
      · (intro b hb w hT; go_simp; exact Lands.value hT)
      try simp only [Act.put, List.getElem_toArray, List.getElem_cons_succ, List.getElem_cons_zero, List.setIfInBounds_toArray, List.set_cons_zero, List.set_cons_succ]
      refine wpT_take (i := 4) (v := ?_) rfl (by kernel_rfl) (by kernel_rfl) (by kernel_rfl) (Or.inl ⟨by rfl, ?_⟩) ?_
      rotate_left
      · (intro b hb w hT; go_simp; exact Lands.value hT)
      try simp only [Act.put, List.getElem_toArray, List.getElem_cons_succ, List.getElem_cons_zero, List.setIfInBounds_toArray, List.set_cons_zero, List.set_cons_succ]
      refine wpT_take (i := 5) (v := ?_) rfl (by kernel_rfl) (by kernel_rfl) (by kernel_rfl) (Or.inl ⟨by rfl, ?_⟩) ?_
      rotate_left
      · (intro b hb w hT; have c2 := hT.1.c2; go_simp; exact Lands.value hT)
      try simp only [Act.put, List.getElem_toArray, List.getElem_cons_succ, List.getElem_cons_zero, List.setIfInBounds_toArray, List.set_cons_zero, List.set_cons_succ]
      refine wpT_take (i := 6) (v := ?_) rfl (by kernel_rfl) (by kernel_rfl) (by kernel_rfl) (Or.inl ⟨by rfl, ?_⟩) ?_
      rotate_left
      · (intro b hb w hT; go_simp; exact Lands.value hT)
      try simp only [Act.put, List.getElem_toArray, List.getElem_cons_succ, List.getElem_cons_zero, List.setIfInBounds_toArray, List.set_cons_zero, List.set_cons_succ]
      refine wpT_take (i := 7) (v := .string (tx (l.take k))) rfl (by kernel_rfl) (by kernel_rfl) (by kernel_rfl) (Or.inl ⟨by rfl, ?_⟩) ?_
      · (intro b hb w hT; refine Lands.conv (w1 := w) 42 9 _ _ rfl rfl ((runes_back w 42 9 21 _ _ (by kernel_rfl) (by kernel_rfl) (by kernel_rfl) (hT.2.2.pre hk)).trans (by rw [back_tx (OK.out.take k)])) ?_; exact hT)
      try simp only [Act.put, List.getElem_toArray, List.getElem_cons_succ, List.getElem_cons_zero, List.setIfInBounds_toArray, List.set_cons_zero, List.set_cons_succ]
      refine wpT_take (i := 8) (v := ?_) rfl (by kernel_rfl) (by kernel_rfl) (by kernel_rfl) (Or.inl ⟨by rfl, ?_⟩) ?_
      rotate_left
      · (intro b hb w hT; go_simp; exact Lands.value hT)
      try simp only [Act.put, List.getElem_toArray, List.getElem_cons_succ, List.getElem_cons_zero, List.setIfInBounds_toArray, List.set_cons_zero, List.set_cons_succ]
      refine wpT_take (i := 9) (v := ?_) rfl (by kernel_rfl) (by kernel_rfl) (by kernel_rfl) (Or.inl ⟨by rfl, ?_⟩) ?_
      rotate_left
      · (intro b hb w hT; go_simp; exact Lands.value hT)
      try simp only [Act.put, List.getElem_toArray, List.getElem_cons_succ, List.getElem_cons_zero, List.setIfInBounds_toArray, List.set_cons_zero, List.set_cons_succ]
      refine wpT_take (i := 10) (v := ?_) rfl (by kernel_rfl) (by kernel_rfl) (by kernel_rfl) (Or.inl ⟨by rfl, ?_⟩) ?_
      rotate_left
      · (intro b hb w hT; go_simp; exact Lands.value hT)
      try simp only [Act.put, List.getElem_toArray, List.getElem_cons_succ, List.getElem_cons_zero, List.setIfInBounds_toArray, List.set_cons_zero, List.set_cons_succ]
      refine wpT_take (i := 11) (v := ?_) rfl (by kernel_rfl) (by kernel_rfl) (by kernel_rfl) (Or.inl ⟨by rfl, ?_⟩) ?_
      rotate_left
      · (intro b hb w hT; go_simp; exact Lands.value hT)
      try simp only [Act.put, List.getElem_toArray, List.getElem_cons_succ, List.getElem_cons_zero, List.setIfInBounds_toArray, List.set_cons_zero, List.set_cons_succ]
      refine wpT_take (i := 12) (v := ?_) rfl (by kernel_rfl) (by kernel_rfl) (by kernel_rfl) (Or.inl ⟨by rfl, ?_⟩) ?_
      rotate_left
      · (intro b hb w hT; have c2 := hT.1.c2; go_simp; exact Lands.value hT)
      try simp only [Act.put, List.getElem_toArray, List.getElem_cons_succ, List.getElem_cons_zero, List.setIfInBounds_toArray, List.set_cons_zero, List.set_cons_succ]
      refine wpT_take (i := 13) (v := ?_) rfl (by kernel_rfl) (by kernel_rfl) (by kernel_rfl) (Or.inl ⟨by rfl, ?_⟩) ?_
      rotate_left
      · (intro b hb w hT; go_simp; exact Lands.value hT)
      try simp only [Act.put, List.getElem_toArray, List.getElem_cons_succ, List.getElem_cons_zero, List.setIfInBounds_toArray, List.set_cons_zero, List.set_cons_succ]
      refine wpT_take (i := 14) (v := .int .i64 n) rfl (by kernel_rfl) (by kernel_rfl) (by kernel_rfl) (Or.inl ⟨by rfl, ?_⟩) ?_
      · (intro b hb w hT; go_simp; exact Lands.value hT)
      try simp only [Act.put, List.getElem_toArray, List.getElem_cons_succ, List.getElem_cons_zero, List.setIfInBounds_toArray, List.set_cons_zero, List.set_cons_succ]
      refine wpT_take (i := 15) (v := .int .i64 m) rfl (by kernel_rfl) (by kernel_rfl) (by kernel_rfl) (Or.inl ⟨by rfl, ?_⟩) ?_
      · (intro b hb w hT; go_simp; exact Lands.value hT)
      try simp only [Act.put, List.getElem_toArray, List.getElem_cons_succ, List.getElem_cons_zero, List.setIfInBounds_toArray, List.set_cons_zero, List.set_cons_succ]
      refine wpT_take (i := 16) (v := .slice (some ⟨vb, 0, none⟩) 0 0) rfl (by kernel_rfl) (by kernel_rfl) (by kernel_rfl) (Or.inl ⟨by rfl, ?_⟩) ?_
      · (intro b hb w hT; go_simp; exact Lands.value hT)
      try simp only [Act.put, List.getElem_toArray, List.getElem_cons_succ, List.getElem_cons_zero, List.setIfInBounds_toArray, List.set_cons_zero, List.set_cons_succ]
      refine wpT_take (i := 17) (v := .string (tx (l.drop m))) rfl (by kernel_rfl) (by kernel_rfl) (by kernel_rfl) (Or.inl ⟨by rfl, ?_⟩) ?_
      · (intro b hb w hT; refine Lands.conv (w1 := w) 42 9 _ _ rfl rfl ((runes_back w 42 9 21 _ _ (by kernel_rfl) (by kernel_rfl) (by kernel_rfl) hT.2.2.none).trans (by rw [nil_tx (l := l) (k := m) HM.out])) ?_; exact hT)
      try simp only [Act.put, List.getElem_toArray, List.getElem_cons_succ, List.getElem_cons_zero, List.setIfInBounds_toArray, List.set_cons_zero, List.set_cons_succ]
      refine wpT_take (i := 18) (v := .string (tx (delM l k n))) rfl (by kernel_rfl) (by kernel_rfl) (by kernel_rfl) (Or.inl ⟨by rfl, ?_⟩) ?_
      · (intro b hb w hT; go_simp; exact Lands.value hT)
      try simp only [Act.put, List.getElem_toArray, List.getElem_cons_succ, List.getElem_cons_zero, List.setIfInBounds_toArray, List.set_cons_zero, List.set_cons_succ]
      refine wpT_take (i := 19) (v := .tuple #[]) rfl (by kernel_rfl) (by kernel_rfl) (by kernel_rfl) (Or.inl ⟨by rfl, ?_⟩) ?_
      · (intro b hb w hT; obtain rfl : b = false := hb rfl; go_simp; exact Lands.enter ((setText_any bp lb l (delM l k n) k pc _ w hT.1).mono fun e w' h => ⟨h.1, hT.set h.2.1 h.2.2 NE.out.1 NE.out.2⟩))
      try simp only [Act.put, List.getElem_toArray, List.getElem_cons_succ, List.getElem_cons_zero, List.setIfInBounds_toArray, List.set_cons_zero, List.set_cons_succ]
      refine wpT_done (by kernel_rfl) ?_ _
      intro wt hT
      refine NoPanic.normal ?_
      have BZ : Hid (B9 wt bp lb (delM l k n) k pc (.pointer (some ⟨dp, 0, none⟩))) := hT.1
      have TZ := Lib.hid hT.2.1
      clear hT T0
      go_wp2_with fail
      clear f1
      go_ret
      exact ⟨ret_str9 HTK.out, ⟨_, BZ.out⟩, TZ.out⟩
  · rw [if_neg hlt, if_neg hlt]
    go_wp2_with fail
    go_ret
    exact ⟨rfl, ⟨_, B2.out⟩, Two.of_old O2.out⟩
end Go.Proofs.YtleamondilmojaaDoor
