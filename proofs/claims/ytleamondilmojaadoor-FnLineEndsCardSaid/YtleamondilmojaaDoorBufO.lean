/- (*Buffer).InsertText, overwriting. (Printed by mkbufo.py.) -/
import Derived.Test.YtleamondilmojaaDoorBufJ
namespace Go.Proofs.YtleamondilmojaaDoor
open Go.RowKit
set_option linter.unusedVariables false
set_option linter.unusedSimpArgs false
set_option linter.unnecessarySimpa false
set_option maxRecDepth 100000

theorem cont_any (l : Bs) (w : World) (hn : l.length ≤ 1000000) : Calls Tryd.prog 56 #[.string (tx l), .string ⟨#[10]⟩] w fun e w' => e = .returned (.bool (decide (0 ≤ fidx nl l))) ∧ w = w' := by
  go_enter Tryd.func56, Tryd.ntmps56
  go_wp2_with (go_at_call 79; refine (idx_any l w hn).mono ?_; rintro e w1 ⟨rfl, rfl⟩)
  go_ret
  exact ⟨by first | rfl | (congr 2), rfl⟩
theorem runesAt_mid {w : World} {b c n : Nat} {l : Bs} {k q : Nat} (h : RunesAt w (.slice (some ⟨b, 0, none⟩) n c) (l.map fun c => (c.toNat : Int))) (hk : k + q ≤ l.length) (o c' : Nat) (ho : 0 < q → o = k) (hc : q ≤ c') (hm : c' ≤ maxLen) : RunesAt w (.slice (some ⟨b, o, none⟩) q c') (((l.drop k).take q).map fun c => (c.toNat : Int)) := by
  obtain ⟨b', o', c'', e, h1, h2, h3, h4⟩ := h
  injection e with e1 e2 e3; injection e1 with e1; injection e1 with e1 e4; subst e1 e4 e2 e3
  have hl : (((l.drop k).take q).map fun c => (c.toNat : Int)).length = q := by simp; omega
  simp only [List.length_map] at h1 h4
  refine ⟨b, o, c', by rw [hl], by omega, hm, h3, fun j hj => ?_⟩
  rw [hl] at hj
  obtain rfl := ho (by omega)
  have := h4 (o + j) (by omega)
  rw [Nat.zero_add] at this
  rw [this, gi_map (by omega), List.map_take, gi_take hj]
theorem nl_setE : setP [10] false = nl := by
  funext c
  unfold setP hasb nl
  by_cases h : c = 10
  · subst h; rfl
  · have h1 : (c == 10) = false := by rw [beq_eq_false_iff_ne]; exact h
    have h2 : List.contains [(10 : UInt8)] c = false := by simp [h1]; exact h
    rw [h1, h2]; rfl
/-- A text written over some signs of another one. -/
def putM (l : Bs) (k : Nat) (v : Bs) (m : Nat) : Bs := l.take k ++ v ++ l.drop (k + m)
/-- How many signs it is written over: as many as it has, as far as the line goes. -/
def overN (l : Bs) (k : Nat) (v : Bs) : Nat := flen nl ((l.drop k).take v.length)
theorem overN_le {l : Bs} {k : Nat} {v : Bs} (h : k + v.length ≤ l.length) : overN l k v ≤ v.length := by
  have := flen_le nl ((l.drop k).take v.length)
  rw [List.length_take] at this
  unfold overN; omega
set_option maxHeartbeats 4000000 in
theorem insOT_any (bp lb : Nat) (l : Bs) (k : Nat) (pc : Int) (dv : Value) (w : World) (h : B9 w bp lb l k pc dv) (ok : okT l) (v : Bs) (okv : okT v) (hkv : k + v.length ≤ l.length) :
    Calls Tryd.prog 81 #[.pointer (some ⟨bp, 0, none⟩), .string (tx v), .bool true, .bool true] w (StepPost bp lb (putM l k v (overN l k v)) (k + v.length) pc w) := by
  have H := Lib.hid h
  have c2 := h.c2
  have OK := Lib.hid ok
  have OV := Lib.hid okv
  have hn := ok.n
  have hvn := okv.n
  have hbl := h.lt.1
  have hll := h.lt.2
  have hk : k ≤ l.length := by omega
  clear h ok okv
  have hle := overN_le hkv
  have OT := Lib.hid ((OK.out.drop k).take v.length)
  have hml : ((l.drop k).take v.length).length = v.length := by simp; omega
  obtain ⟨t, ht⟩ : ∃ t, t = (l.drop k).take v.length := ⟨_, rfl⟩
  have hov : Hid (overN l k v = flen nl t) := by rw [ht]; rfl
  have HT := Lib.hid ht
  rw [← ht] at hml OT
  obtain ⟨p, hp⟩ : ∃ p, p = overN l k v := ⟨_, rfl⟩
  rw [← hp] at hle hov ⊢
  have hsv : (tx v).size = v.length := tx_size v
  have hst : (tx t).size = t.length := tx_size t
  clear ht hp
  have i0 : (0 : Int) ≤ k := by omega
  have f0 : IntKind.i64.wrap ((k : Int) + v.length) = ((k + v.length : Nat) : Int) := by rw [IntWalk.i64_in _ (by omega)]; omega
  obtain ⟨q, hq⟩ : ∃ q, q = k + v.length := ⟨_, rfl⟩
  rw [← hq] at f0 hkv
  have i2 : (k : Int) ≤ q := by omega
  have i3 : (q : Int) ≤ l.length := by omega
  have hqk : q - k = v.length := by omega
  have HQ := Lib.hid hq
  clear hq
  go_enter Tryd.func81, Tryd.ntmps81
  go_upto_region 2 with (first
    | (go_at_call 62; refine (text_any bp lb l k pc dv w H.out).mono ?_; rintro e w1 ⟨rfl, n, rfl⟩)
    | (refine wpList_runes rfl 9 42 21 _ (tx l) rfl rfl (by kernel_rfl) (by kernel_rfl) (by kernel_rfl) (by rw [tx_size]; omega) ?_; intro vv w2 o2 r2 hv2 own2; have e2 := (o2.cell (o := 2) hbl).trans c2; have O2 := Lib.hid ((Old.drewN w n).trans o2); rw [runes_tx OK.out] at hv2 r2 own2; obtain ⟨vb, vc, rfl⟩ := hv2; rw [List.length_map] at r2 own2; rw [List.length_map]; have OW := Lib.hid own2; have R2 := Lib.hid r2; obtain ⟨_, _, _, eq, q1, q2, _⟩ := r2; injection eq with eq1 eq2 eq3; subst eq3; rw [List.length_map] at q1; unfold maxLen at q2; clear o2 own2 eq1 eq2))
  have NE : Hid (vb ≠ bp ∧ vb ≠ lb) := by
    have h1 := (own_lt OW.out).1
    have h2 : (w.drewN n).heap.size = w.heap.size := rfl
    exact ⟨by omega, by omega⟩
  have i1 : (k : Int) ≤ vc := by omega
  have i4 : (q : Int) ≤ vc := by omega
  have hap1 := tx_append (l.take k) v
  have hap2 : ∀ m, tx (l.take k ++ v) ++ tx (l.drop m) = tx (l.take k ++ v ++ l.drop m) := fun m => tx_append _ _
  have hcat1 : ¬ 9223372036854775807 < (tx (l.take k)).size + (tx v).size := by
    have h1 := (OK.out.take k).n
    rw [tx_size, tx_size]; omega
  obtain ⟨m, hm⟩ : ∃ m, m = k + p := ⟨_, rfl⟩
  have hap3 := hap2 m
  have HP : Hid (tx (l.take k ++ v ++ l.drop m) = tx (putM l k v p)) := by rw [hm]; rfl
  rw [HP.out] at hap3
  have hcat2 : ¬ 9223372036854775807 < (tx (l.take k ++ v)).size + (tx (l.drop m)).size := by
    have h1 := (OK.out.take k).n
    have h2 := (OK.out.drop m).n
    rw [tx_size, tx_size, List.length_append]; omega
  have j1 : (0 : Int) ≤ m := by omega
  have j2 : (m : Int) ≤ l.length := by omega
  have j3 : (m : Int) ≤ vc := by omega
  have e0 : (((l.length : Int) - m).toNat) = l.length - m := by omega
  have e3 : (((q : Int) - k).toNat) = q - k := by omega
  have FM : Hid (IntKind.i64.wrap ((k : Int) + p) = (m : Int)) := by unfold Hid; rw [IntWalk.i64_in _ (by omega)]; omega
  have hexq := HQ.out
  have MT : Hid (∀ o c', (0 < v.length → o = k) → v.length ≤ c' → c' ≤ maxLen → (convert 42 9 (.slice (some ⟨vb, o, none⟩) v.length c')).run Tryd.prog w2 = .ok (.string (tx t)) w2) := fun o c' g1 g2 g3 =>
    (runes_back w2 42 9 21 _ _ (by kernel_rfl) (by kernel_rfl) (by kernel_rfl) (runesAt_mid R2.out (by rw [← hexq]; exact hkv) o c' g1 g2 g3)).trans (by rw [back_tx ((OK.out.drop k).take v.length), ← HT.out])
  have ALL : Hid (tx (l.take k) ++ tx v = tx (l.take k ++ v) ∧ tx (l.take k ++ v) ++ tx (l.drop m) = tx (putM l k v p) ∧ ¬ 9223372036854775807 < (tx (l.take k)).size + (tx v).size ∧ ¬ 9223372036854775807 < (tx (l.take k ++ v)).size + (tx (l.drop m)).size ∧ (0 : Int) ≤ m ∧ (m : Int) ≤ l.length ∧ (m : Int) ≤ vc ∧ (((l.length : Int) - m).toNat) = l.length - m ∧ k ≤ m) := ⟨hap1, hap3, hcat1, hcat2, j1, j2, j3, e0, by omega⟩
  clear hap2 hexq hm hap1 hap3 hcat1 hcat2 j1 j2 j3 e0
  rcases Nat.lt_or_ge k vc with hk0 | hk0
  · have hne0 : ¬ vc = k := by omega
    have CV := MT.out k (vc - k) (fun _ => rfl) (by omega) (by unfold maxLen; omega)
    by_cases hf : 0 ≤ fidx nl t
    · have DF := Lib.hid (show decide (0 ≤ fidx nl t) = true by simpa using hf)
      have E5 := Lib.hid (fidx_flen hf).1
      have hpt : p ≤ t.length := by have := (fidx_flen hf).2; rw [hov.out]; omega
      have ip : (p : Int) ≤ t.length := by omega
      have ip0 : (0 : Int) ≤ p := by omega
      have hex : (tx t).extract 0 p = tx (t.take p) := ext_preE
      have hS : (tx (t.take p)).size = p := by rw [tx_size, List.length_take]; omega
      have hp5 : Hid (fidx nl t = (p : Int)) := by unfold Hid; rw [E5.out, ← hov.out]
      have htn := OT.out.n
      clear hf
      go_upto_region 7 with (first
        | (go_at_call 56; refine (cont_any t _ htn).mono ?_; rw [DF.out]; rintro e w3 ⟨rfl, rfl⟩)
        | (go_at_call 105; refine (ia_any t [10] _ OT.out okT_nl).mono ?_; rw [nl_setE, hp5.out]; rintro e w4 ⟨rfl, o4⟩; have O4 := Lib.hid o4; clear o4))
      have WX : Hid (Old w w4) := O2.out.trans O4.out
      obtain ⟨S, hSS⟩ : ∃ S, S = tx (t.take p) := ⟨_, rfl⟩
      rw [← hSS] at hS ⊢
      clear hSS hex
      have RX : Hid (RunesAt w4 (.slice (some ⟨vb, 0, none⟩) l.length vc) (l.map fun c => (c.toNat : Int))) := R2.out.later O4.out
      generalize w4 = wy at WX RX ⊢
      obtain ⟨hap1, hap3, hcat1, hcat2, j1, j2, j3, e0, j0⟩ := ALL.out
      have T0 : TI w bp lb l (putM l k v p) k pc dv vb vc false wy.drew := ⟨H.out.old (WX.out.then_drew), Two.of_old (WX.out.then_drew), RX.out.later (Old.drew _)⟩
      have f1 := FM.out
      clear f0 hsv
      rcases Nat.lt_or_ge m vc with hv | hv
      · have hne : ¬ vc = m := by omega
        have HM : Hid (m ≤ l.length ∧ l.length - m ≤ vc - m ∧ vc - m ≤ maxLen) := ⟨by omega, by omega, by unfold maxLen; omega⟩
        refine wp_region_noPanic ?_
        refine wp_region_T (TI w bp lb l (putM l k v p) k pc dv vb vc) 15 (by kernel_rfl) (T0) ?_
        refine wpT_take (i := 0) (v := ?_) rfl (by kernel_rfl) (by kernel_rfl) (by kernel_rfl) (Or.inl ⟨by rfl, ?_⟩) ?_
        rotate_left
        · (intro b hb w hT; go_simp; exact Lands.value hT)
        try simp only [Act.put, List.getElem_toArray, List.getElem_cons_succ, List.getElem_cons_zero, List.setIfInBounds_toArray, List.set_cons_zero, List.set_cons_succ]
        refine wpT_take (i := 1) (v := ?_) rfl (by kernel_rfl) (by kernel_rfl) (by kernel_rfl) (Or.inl ⟨by rfl, ?_⟩) ?_
        rotate_left
        · (intro b hb w hT; go_simp; exact Lands.value hT)
        try simp only [Act.put, List.getElem_toArray, List.getElem_cons_succ, List.getElem_cons_zero, List.setIfInBounds_toArray, List.set_cons_zero, List.set_cons_succ]
        refine wpT_take (i := 2) (v := ?_) rfl (by kernel_rfl) (by kernel_rfl) (by kernel_rfl) (Or.inl ⟨by rfl, ?_⟩) ?_
        rotate_left
        · (intro b hb w hT; go_simp; exact Lands.value hT)
        try simp only [Act.put, List.getElem_toArray, List.getElem_cons_succ, List.getElem_cons_zero, List.setIfInBounds_toArray, List.set_cons_zero, List.set_cons_succ]
        refine wpT_take (i := 3) (v := ?_) rfl (by kernel_rfl) (by kernel_rfl) (by kernel_rfl) (Or.inl ⟨by rfl, ?_⟩) ?_
        rotate_left
        · (intro b hb w hT; go_simp; exact Lands.value hT)
        try simp only [Act.put, List.getElem_toArray, List.getElem_cons_succ, List.getElem_cons_zero, List.setIfInBounds_toArray, List.set_cons_zero, List.set_cons_succ]
        refine wpT_take (i := 4) (v := .string (tx (l.take k))) rfl (by kernel_rfl) (by kernel_rfl) (by kernel_rfl) (Or.inl ⟨by rfl, ?_⟩) ?_
        · (intro b hb w hT; refine Lands.conv (w1 := w) 42 9 _ _ rfl rfl ((runes_back w 42 9 21 _ _ (by kernel_rfl) (by kernel_rfl) (by kernel_rfl) (hT.2.2.pre hk)).trans (by rw [back_tx (OK.out.take k)])) ?_; exact hT)
        try simp only [Act.put, List.getElem_toArray, List.getElem_cons_succ, List.getElem_cons_zero, List.setIfInBounds_toArray, List.set_cons_zero, List.set_cons_succ]
        refine wpT_take (i := 5) (v := ?_) rfl (by kernel_rfl) (by kernel_rfl) (by kernel_rfl) (Or.inl ⟨by rfl, ?_⟩) ?_
        rotate_left
        · (intro b hb w hT; go_simp; exact Lands.value hT)
        try simp only [Act.put, List.getElem_toArray, List.getElem_cons_succ, List.getElem_cons_zero, List.setIfInBounds_toArray, List.set_cons_zero, List.set_cons_succ]
        refine wpT_take (i := 6) (v := .string (tx (l.take k ++ v))) rfl (by kernel_rfl) (by kernel_rfl) (by kernel_rfl) (Or.inl ⟨by rfl, ?_⟩) ?_
        · (intro b hb w hT; go_simp; exact Lands.value hT)
        try simp only [Act.put, List.getElem_toArray, List.getElem_cons_succ, List.getElem_cons_zero, List.setIfInBounds_toArray, List.set_cons_zero, List.set_cons_succ]
        refine wpT_take (i := 7) (v := ?_) rfl (by kernel_rfl) (by kernel_rfl) (by kernel_rfl) (Or.inl ⟨by rfl, ?_⟩) ?_
        rotate_left
        · (intro b hb w hT; go_simp; exact Lands.value hT)
        try simp only [Act.put, List.getElem_toArray, List.getElem_cons_succ, List.getElem_cons_zero, List.setIfInBounds_toArray, List.set_cons_zero, List.set_cons_succ]
        refine wpT_take (i := 8) (v := ?_) rfl (by kernel_rfl) (by kernel_rfl) (by kernel_rfl) (Or.inl ⟨by rfl, ?_⟩) ?_
        rotate_left
        · (intro b hb w hT; go_simp; exact Lands.value hT)
        try simp only [Act.put, List.getElem_toArray, List.getElem_cons_succ, List.getElem_cons_zero, List.setIfInBounds_toArray, List.set_cons_zero, List.set_cons_succ]
        refine wpT_take (i := 9) (v := ?_) rfl (by kernel_rfl) (by kernel_rfl) (by kernel_rfl) (Or.inl ⟨by rfl, ?_⟩) ?_
        rotate_left
        · (intro b hb w hT; go_simp; exact Lands.value hT)
        try simp only [Act.put, List.getElem_toArray, List.getElem_cons_succ, List.getElem_cons_zero, List.setIfInBounds_toArray, List.set_cons_zero, List.set_cons_succ]
        refine wpT_take (i := 10) (v := .int .i64 p) rfl (by kernel_rfl) (by kernel_rfl) (by kernel_rfl) (Or.inl ⟨by rfl, ?_⟩) ?_
        · (intro b hb w hT; go_simp; exact Lands.value hT)
        try simp only [Act.put, List.getElem_toArray, List.getElem_cons_succ, List.getElem_cons_zero, List.setIfInBounds_toArray, List.set_cons_zero, List.set_cons_succ]
        refine wpT_take (i := 11) (v := .int .i64 m) rfl (by kernel_rfl) (by kernel_rfl) (by kernel_rfl) (Or.inl ⟨by rfl, ?_⟩) ?_
        · (intro b hb w hT; go_simp; exact Lands.value hT)
        try simp only [Act.put, List.getElem_toArray, List.getElem_cons_succ, List.getElem_cons_zero, List.setIfInBounds_toArray, List.set_cons_zero, List.set_cons_succ]
        refine wpT_take (i := 12) (v := .slice (some ⟨vb, m, none⟩) (l.length - m) (vc - m)) rfl (by kernel_rfl) (by kernel_rfl) (by kernel_rfl) (Or.inl ⟨by rfl, ?_⟩) ?_
        · (intro b hb w hT; go_simp; exact Lands.value hT)
        try simp only [Act.put, List.getElem_toArray, List.getElem_cons_succ, List.getElem_cons_zero, List.setIfInBounds_toArray, List.set_cons_zero, List.set_cons_succ]
        refine wpT_take (i := 13) (v := .string (tx (l.drop m))) rfl (by kernel_rfl) (by kernel_rfl) (by kernel_rfl) (Or.inl ⟨by rfl, ?_⟩) ?_
        · (intro b hb w hT; refine Lands.conv (w1 := w) 42 9 _ _ rfl rfl ((runes_back w 42 9 21 _ _ (by kernel_rfl) (by kernel_rfl) (by kernel_rfl) (hT.2.2.post HM.out.1 m (vc - m) (fun _ => rfl) HM.out.2.1 HM.out.2.2)).trans (by rw [back_tx (OK.out.drop m)])) ?_; exact hT)
        try simp only [Act.put, List.getElem_toArray, List.getElem_cons_succ, List.getElem_cons_zero, List.setIfInBounds_toArray, List.set_cons_zero, List.set_cons_succ]
        refine wpT_take (i := 14) (v := .string (tx (putM l k v p))) rfl (by kernel_rfl) (by kernel_rfl) (by kernel_rfl) (Or.inl ⟨by rfl, ?_⟩) ?_
        · (intro b hb w hT; go_simp; exact Lands.value hT)
        try simp only [Act.put, List.getElem_toArray, List.getElem_cons_succ, List.getElem_cons_zero, List.setIfInBounds_toArray, List.set_cons_zero, List.set_cons_succ]
        refine wpT_take (i := 15) (v := .tuple #[]) rfl (by kernel_rfl) (by kernel_rfl) (by kernel_rfl) (Or.inl ⟨by rfl, ?_⟩) ?_
        · (intro b hb w hT; obtain rfl : b = false := hb rfl; go_simp; exact Lands.enter ((setText_any bp lb l (putM l k v p) k pc dv w hT.1).mono fun e w' h => ⟨h.1, hT.set h.2.1 h.2.2 NE.out.1 NE.out.2⟩))
        try simp only [Act.put, List.getElem_toArray, List.getElem_cons_succ, List.getElem_cons_zero, List.setIfInBounds_toArray, List.set_cons_zero, List.set_cons_succ]
        refine wpT_done (by kernel_rfl) ?_ _
        intro wt hT
        refine NoPanic.normal ?_
        have BZ : Hid (B9 wt bp lb (putM l k v p) k pc dv) := hT.1
        have TZ := Lib.hid hT.2.1
        clear hT T0 f1
        have g2 := BZ.out.c2
        have KV := Lib.hid (show (k : Int) + (v.length : Int) = ((k + v.length : Nat) : Int) by omega)
        go_wp2_with (refine wpList_runes rfl 9 42 21 _ (tx v) rfl rfl (by kernel_rfl) (by kernel_rfl) (by kernel_rfl) (by rw [tx_size]; omega) ?_; intro v4 w4 o4 r4 hv4 own4; have B4 := Lib.hid (BZ.out.old o4); have T4 := Lib.hid (TZ.out.old o4); have g4 := B4.out.c2; have f4 := B4.out.free 2; rw [runes_tx OV.out] at hv4; obtain ⟨vb4, vc4, rfl⟩ := hv4; rw [List.length_map]; clear o4 r4 own4)
        go_end0
        refine ⟨rfl, ?_⟩
        have e := KV.out
        rw [e]
        exact ⟨⟨_, B4.out.setC (k + v.length)⟩, T4.out.stored bp 2 _ (Or.inl rfl)⟩
      · have hv2 : m = vc := by omega
        subst hv2
        have e9 : l.length - m = 0 := by omega
        have HM : Hid (l.length ≤ m) := by unfold Hid; omega
        refine wp_region_noPanic ?_
        refine wp_region_T (TI w bp lb l (putM l k v p) k pc dv vb m) 15 (by kernel_rfl) (T0) ?_
        refine wpT_take (i := 0) (v := ?_) rfl (by kernel_rfl) (by kernel_rfl) (by kernel_rfl) (Or.inl ⟨by rfl, ?_⟩) ?_
        rotate_left
        · (intro b hb w hT; go_simp; exact Lands.value hT)
        try simp only [Act.put, List.getElem_toArray, List.getElem_cons_succ, List.getElem_cons_zero, List.setIfInBounds_toArray, List.set_cons_zero, List.set_cons_succ]
        refine wpT_take (i := 1) (v := ?_) rfl (by kernel_rfl) (by kernel_rfl) (by kernel_rfl) (Or.inl ⟨by rfl, ?_⟩) ?_
        rotate_left
        · (intro b hb w hT; go_simp; exact Lands.value hT)
        try simp only [Act.put, List.getElem_toArray, List.getElem_cons_succ, List.getElem_cons_zero, List.setIfInBounds_toArray, List.set_cons_zero, List.set_cons_succ]
        refine wpT_take (i := 2) (v := ?_) rfl (by kernel_rfl) (by kernel_rfl) (by kernel_rfl) (Or.inl ⟨by rfl, ?_⟩) ?_
        rotate_left
        · (intro b hb w hT; go_simp; exact Lands.value hT)
        try simp only [Act.put, List.getElem_toArray, List.getElem_cons_succ, List.getElem_cons_zero, List.setIfInBounds_toArray, List.set_cons_zero, List.set_cons_succ]
        refine wpT_take (i := 3) (v := ?_) rfl (by kernel_rfl) (by kernel_rfl) (by kernel_rfl) (Or.inl ⟨by rfl, ?_⟩) ?_
        rotate_left
        · (intro b hb w hT; go_simp; exact Lands.value hT)
        try simp only [Act.put, List.getElem_toArray, List.getElem_cons_succ, List.getElem_cons_zero, List.setIfInBounds_toArray, List.set_cons_zero, List.set_cons_succ]
        refine wpT_take (i := 4) (v := .string (tx (l.take k))) rfl (by kernel_rfl) (by kernel_rfl) (by kernel_rfl) (Or.inl ⟨by rfl, ?_⟩) ?_
        · (intro b hb w hT; refine Lands.conv (w1 := w) 42 9 _ _ rfl rfl ((runes_back w 42 9 21 _ _ (by kernel_rfl) (by kernel_rfl) (by kernel_rfl) (hT.2.2.pre hk)).trans (by rw [back_tx (OK.out.take k)])) ?_; exact hT)
        try simp only [Act.put, List.getElem_toArray, List.getElem_cons_succ, List.getElem_cons_zero, List.setIfInBounds_toArray, List.set_cons_zero, List.set_cons_succ]
        refine wpT_take (i := 5) (v := ?_) rfl (by kernel_rfl) (by kernel_rfl) (by kernel_rfl) (Or.inl ⟨by rfl, ?_⟩) ?_
        rotate_left
        · (intro b hb w hT; go_simp; exact Lands.value hT)
        try simp only [Act.put, List.getElem_toArray, List.getElem_cons_succ, List.getElem_cons_zero, List.setIfInBounds_toArray, List.set_cons_zero, List.set_cons_succ]
        refine wpT_take (i := 6) (v := .string (tx (l.take k ++ v))) rfl (by kernel_rfl) (by kernel_rfl) (by kernel_rfl) (Or.inl ⟨by rfl, ?_⟩) ?_
        · (intro b hb w hT; go_simp; exact Lands.value hT)
        try simp only [Act.put, List.getElem_toArray, List.getElem_cons_succ, List.getElem_cons_zero, List.setIfInBounds_toArray, List.set_cons_zero, List.set_cons_succ]
        refine wpT_take (i := 7) (v := ?_) rfl (by kernel_rfl) (by kernel_rfl) (by kernel_rfl) (Or.inl ⟨by rfl, ?_⟩) ?_
        rotate_left
        · (intro b hb w hT; go_simp; exact Lands.value hT)
        try simp only [Act.put, List.getElem_toArray, List.getElem_cons_succ, List.getElem_cons_zero, List.setIfInBounds_toArray, List.set_cons_zero, List.set_cons_succ]
        refine wpT_take (i := 8) (v := ?_) rfl (by kernel_rfl) (by kernel_rfl) (by kernel_rfl) (Or.inl ⟨by rfl, ?_⟩) ?_
        rotate_left
        · (intro b hb w hT; go_simp; exact Lands.value hT)
        try simp only [Act.put, List.getElem_toArray, List.getElem_cons_succ, List.getElem_cons_zero, List.setIfInBounds_toArray, List.set_cons_zero, List.set_cons_succ]
        refine wpT_take (i := 9) (v := ?_) rfl (by kernel_rfl) (by kernel_rfl) (by kernel_rfl) (Or.inl ⟨by rfl, ?_⟩) ?_
        rotate_left
        · (intro b hb w hT; go_simp; exact Lands.value hT)
        try simp only [Act.put, List.getElem_toArray, List.getElem_cons_succ, List.getElem_cons_zero, List.setIfInBounds_toArray, List.set_cons_zero, List.set_cons_succ]
        refine wpT_take (i := 10) (v := .int .i64 p) rfl (by kernel_rfl) (by kernel_rfl) (by kernel_rfl) (Or.inl ⟨by rfl, ?_⟩) ?_
        · (intro b hb w hT; go_simp; exact Lands.value hT)
        try simp only [Act.put, List.getElem_toArray, List.getElem_cons_succ, List.getElem_cons_zero, List.setIfInBounds_toArray, List.set_cons_zero, List.set_cons_succ]
        refine wpT_take (i := 11) (v := .int .i64 m) rfl (by kernel_rfl) (by kernel_rfl) (by kernel_rfl) (Or.inl ⟨by rfl, ?_⟩) ?_
        · (intro b hb w hT; go_simp; exact Lands.value hT)
        try simp only [Act.put, List.getElem_toArray, List.getElem_cons_succ, List.getElem_cons_zero, List.setIfInBounds_toArray, List.set_cons_zero, List.set_cons_succ]
        refine wpT_take (i := 12) (v := .slice (some ⟨vb, 0, none⟩) 0 0) rfl (by kernel_rfl) (by kernel_rfl) (by kernel_rfl) (Or.inl ⟨by rfl, ?_⟩) ?_
        · (intro b hb w hT; go_simp; exact Lands.value hT)
        try simp only [Act.put, List.getElem_toArray, List.getElem_cons_succ, List.getElem_cons_zero, List.setIfInBounds_toArray, List.set_cons_zero, List.set_cons_succ]
        refine wpT_take (i := 13) (v := .string (tx (l.drop m))) rfl (by kernel_rfl) (by kernel_rfl) (by kernel_rfl) (Or.inl ⟨by rfl, ?_⟩) ?_
        · (intro b hb w hT; refine Lands.conv (w1 := w) 42 9 _ _ rfl rfl ((runes_back w 42 9 21 _ _ (by kernel_rfl) (by kernel_rfl) (by kernel_rfl) hT.2.2.none).trans (by rw [nil_tx (l := l) (k := m) HM.out])) ?_; exact hT)
        try simp only [Act.put, List.getElem_toArray, List.getElem_cons_succ, List.getElem_cons_zero, List.setIfInBounds_toArray, List.set_cons_zero, List.set_cons_succ]
        refine wpT_take (i := 14) (v := .string (tx (putM l k v p))) rfl (by kernel_rfl) (by kernel_rfl) (by kernel_rfl) (Or.inl ⟨by rfl, ?_⟩) ?_
        · (intro b hb w hT; go_simp; exact Lands.value hT)
        try simp only [Act.put, List.getElem_toArray, List.getElem_cons_succ, List.getElem_cons_zero, List.setIfInBounds_toArray, List.set_cons_zero, List.set_cons_succ]
        refine wpT_take (i := 15) (v := .tuple #[]) rfl (by kernel_rfl) (by kernel_rfl) (by kernel_rfl) (Or.inl ⟨by rfl, ?_⟩) ?_
        · (intro b hb w hT; obtain rfl : b = false := hb rfl; go_simp; exact Lands.enter ((setText_any bp lb l (putM l k v p) k pc dv w hT.1).mono fun e w' h => ⟨h.1, hT.set h.2.1 h.2.2 NE.out.1 NE.out.2⟩))
        try simp only [Act.put, List.getElem_toArray, List.getElem_cons_succ, List.getElem_cons_zero, List.setIfInBounds_toArray, List.set_cons_zero, List.set_cons_succ]
        refine wpT_done (by kernel_rfl) ?_ _
        intro wt hT
        refine NoPanic.normal ?_
        have BZ : Hid (B9 wt bp lb (putM l k v p) k pc dv) := hT.1
        have TZ := Lib.hid hT.2.1
        clear hT T0 f1
        have g2 := BZ.out.c2
        have KV := Lib.hid (show (k : Int) + (v.length : Int) = ((k + v.length : Nat) : Int) by omega)
        go_wp2_with (refine wpList_runes rfl 9 42 21 _ (tx v) rfl rfl (by kernel_rfl) (by kernel_rfl) (by kernel_rfl) (by rw [tx_size]; omega) ?_; intro v4 w4 o4 r4 hv4 own4; have B4 := Lib.hid (BZ.out.old o4); have T4 := Lib.hid (TZ.out.old o4); have g4 := B4.out.c2; have f4 := B4.out.free 2; rw [runes_tx OV.out] at hv4; obtain ⟨vb4, vc4, rfl⟩ := hv4; rw [List.length_map]; clear o4 r4 own4)
        go_end0
        refine ⟨rfl, ?_⟩
        have e := KV.out
        rw [e]
        exact ⟨⟨_, B4.out.setC (k + v.length)⟩, T4.out.stored bp 2 _ (Or.inl rfl)⟩
    · have DF := Lib.hid (show decide (0 ≤ fidx nl t) = false by simpa using hf)
      have hpt : p = t.length := by rw [hov.out]; exact (fidx_neg (p := nl) (l := t) (by omega)).2
      have hS : (tx t).size = p := by rw [tx_size, hpt]
      have htn := OT.out.n
      clear hf hpt hst
      go_upto_region 7 with (first
        | (go_at_call 56; refine (cont_any t _ htn).mono ?_; rw [DF.out]; rintro e w3 ⟨rfl, rfl⟩))
      obtain ⟨S, hSS⟩ : ∃ S, S = tx t := ⟨_, rfl⟩
      rw [← hSS] at hS ⊢
      clear hSS
      have WX : Hid (Old w w2) := O2.out
      have RX : Hid (RunesAt w2 (.slice (some ⟨vb, 0, none⟩) l.length vc) (l.map fun c => (c.toNat : Int))) := R2.out
      obtain ⟨wy, hwy⟩ : ∃ wy, wy = w2 := ⟨_, rfl⟩
      rw [← hwy] at WX RX ⊢
      clear hwy
      obtain ⟨hap1, hap3, hcat1, hcat2, j1, j2, j3, e0, j0⟩ := ALL.out
      have T0 : TI w bp lb l (putM l k v p) k pc dv vb vc false wy.drew := ⟨H.out.old (WX.out.then_drew), Two.of_old (WX.out.then_drew), RX.out.later (Old.drew _)⟩
      have f1 := FM.out
      clear f0 hsv
      rcases Nat.lt_or_ge m vc with hv | hv
      · have hne : ¬ vc = m := by omega
        have HM : Hid (m ≤ l.length ∧ l.length - m ≤ vc - m ∧ vc - m ≤ maxLen) := ⟨by omega, by omega, by unfold maxLen; omega⟩
        refine wp_region_noPanic ?_
        refine wp_region_T (TI w bp lb l (putM l k v p) k pc dv vb vc) 15 (by kernel_rfl) (T0) ?_
        refine wpT_take (i := 0) (v := ?_) rfl (by kernel_rfl) (by kernel_rfl) (by kernel_rfl) (Or.inl ⟨by rfl, ?_⟩) ?_
        rotate_left
        · (intro b hb w hT; go_simp; exact Lands.value hT)
        try simp only [Act.put, List.getElem_toArray, List.getElem_cons_succ, List.getElem_cons_zero, List.setIfInBounds_toArray, List.set_cons_zero, List.set_cons_succ]
        refine wpT_take (i := 1) (v := ?_) rfl (by kernel_rfl) (by kernel_rfl) (by kernel_rfl) (Or.inl ⟨by rfl, ?_⟩) ?_
        rotate_left
        · (intro b hb w hT; go_simp; exact Lands.value hT)
        try simp only [Act.put, List.getElem_toArray, List.getElem_cons_succ, List.getElem_cons_zero, List.setIfInBounds_toArray, List.set_cons_zero, List.set_cons_succ]
        refine wpT_take (i := 2) (v := ?_) rfl (by kernel_rfl) (by kernel_rfl) (by kernel_rfl) (Or.inl ⟨by rfl, ?_⟩) ?_
        rotate_left
        · (intro b hb w hT; go_simp; exact Lands.value hT)
        try simp only [Act.put, List.getElem_toArray, List.getElem_cons_succ, List.getElem_cons_zero, List.setIfInBounds_toArray, List.set_cons_zero, List.set_cons_succ]
        refine wpT_take (i := 3) (v := ?_) rfl (by kernel_rfl) (by kernel_rfl) (by kernel_rfl) (Or.inl ⟨by rfl, ?_⟩) ?_
        rotate_left
        · (intro b hb w hT; go_simp; exact Lands.value hT)
        try simp only [Act.put, List.getElem_toArray, List.getElem_cons_succ, List.getElem_cons_zero, List.setIfInBounds_toArray, List.set_cons_zero, List.set_cons_succ]
        refine wpT_take (i := 4) (v := .string (tx (l.take k))) rfl (by kernel_rfl) (by kernel_rfl) (by kernel_rfl) (Or.inl ⟨by rfl, ?_⟩) ?_
        · (intro b hb w hT; refine Lands.conv (w1 := w) 42 9 _ _ rfl rfl ((runes_back w 42 9 21 _ _ (by kernel_rfl) (by kernel_rfl) (by kernel_rfl) (hT.2.2.pre hk)).trans (by rw [back_tx (OK.out.take k)])) ?_; exact hT)
        try simp only [Act.put, List.getElem_toArray, List.getElem_cons_succ, List.getElem_cons_zero, List.setIfInBounds_toArray, List.set_cons_zero, List.set_cons_succ]
        refine wpT_take (i := 5) (v := ?_) rfl (by kernel_rfl) (by kernel_rfl) (by kernel_rfl) (Or.inl ⟨by rfl, ?_⟩) ?_
        rotate_left
        · (intro b hb w hT; go_simp; exact Lands.value hT)
        try simp only [Act.put, List.getElem_toArray, List.getElem_cons_succ, List.getElem_cons_zero, List.setIfInBounds_toArray, List.set_cons_zero, List.set_cons_succ]
        refine wpT_take (i := 6) (v := .string (tx (l.take k ++ v))) rfl (by kernel_rfl) (by kernel_rfl) (by kernel_rfl) (Or.inl ⟨by rfl, ?_⟩) ?_
        · (intro b hb w hT; go_simp; exact Lands.value hT)
        try simp only [Act.put, List.getElem_toArray, List.getElem_cons_succ, List.getElem_cons_zero, List.setIfInBounds_toArray, List.set_cons_zero, List.set_cons_succ]
        refine wpT_take (i := 7) (v := ?_) rfl (by kernel_rfl) (by kernel_rfl) (by kernel_rfl) (Or.inl ⟨by rfl, ?_⟩) ?_
        rotate_left
        · (intro b hb w hT; go_simp; exact Lands.value hT)
        try simp only [Act.put, List.getElem_toArray, List.getElem_cons_succ, List.getElem_cons_zero, List.setIfInBounds_toArray, List.set_cons_zero, List.set_cons_succ]
        refine wpT_take (i := 8) (v := ?_) rfl (by kernel_rfl) (by kernel_rfl) (by kernel_rfl) (Or.inl ⟨by rfl, ?_⟩) ?_
        rotate_left
        · (intro b hb w hT; go_simp; exact Lands.value hT)
        try simp only [Act.put, List.getElem_toArray, List.getElem_cons_succ, List.getElem_cons_zero, List.setIfInBounds_toArray, List.set_cons_zero, List.set_cons_succ]
        refine wpT_take (i := 9) (v := ?_) rfl (by kernel_rfl) (by kernel_rfl) (by kernel_rfl) (Or.inl ⟨by rfl, ?_⟩) ?_
        rotate_left
        · (intro b hb w hT; go_simp; exact Lands.value hT)
        try simp only [Act.put, List.getElem_toArray, List.getElem_cons_succ, List.getElem_cons_zero, List.setIfInBounds_toArray, List.set_cons_zero, List.set_cons_succ]
        refine wpT_take (i := 10) (v := .int .i64 p) rfl (by kernel_rfl) (by kernel_rfl) (by kernel_rfl) (Or.inl ⟨by rfl, ?_⟩) ?_
        · (intro b hb w hT; go_simp; exact Lands.value hT)
        try simp only [Act.put, List.getElem_toArray, List.getElem_cons_succ, List.getElem_cons_zero, List.setIfInBounds_toArray, List.set_cons_zero, List.set_cons_succ]
        refine wpT_take (i := 11) (v := .int .i64 m) rfl (by kernel_rfl) (by kernel_rfl) (by kernel_rfl) (Or.inl ⟨by rfl, ?_⟩) ?_
        · (intro b hb w hT; go_simp; exact Lands.value hT)
        try simp only [Act.put, List.getElem_toArray, List.getElem_cons_succ, List.getElem_cons_zero, List.setIfInBounds_toArray, List.set_cons_zero, List.set_cons_succ]
        refine wpT_take (i := 12) (v := .slice (some ⟨vb, m, none⟩) (l.length - m) (vc - m)) rfl (by kernel_rfl) (by kernel_rfl) (by kernel_rfl) (Or.inl ⟨by rfl, ?_⟩) ?_
        · (intro b hb w hT; go_simp; exact Lands.value hT)
        try simp only [Act.put, List.getElem_toArray, List.getElem_cons_succ, List.getElem_cons_zero, List.setIfInBounds_toArray, List.set_cons_zero, List.set_cons_succ]
        refine wpT_take (i := 13) (v := .string (tx (l.drop m))) rfl (by kernel_rfl) (by kernel_rfl) (by kernel_rfl) (Or.inl ⟨by rfl, ?_⟩) ?_
        · (intro b hb w hT; refine Lands.conv (w1 := w) 42 9 _ _ rfl rfl ((runes_back w 42 9 21 _ _ (by kernel_rfl) (by kernel_rfl) (by kernel_rfl) (hT.2.2.post HM.out.1 m (vc - m) (fun _ => rfl) HM.out.2.1 HM.out.2.2)).trans (by rw [back_tx (OK.out.drop m)])) ?_; exact hT)
        try simp only [Act.put, List.getElem_toArray, List.getElem_cons_succ, List.getElem_cons_zero, List.setIfInBounds_toArray, List.set_cons_zero, List.set_cons_succ]
        refine wpT_take (i := 14) (v := .string (tx (putM l k v p))) rfl (by kernel_rfl) (by kernel_rfl) (by kernel_rfl) (Or.inl ⟨by rfl, ?_⟩) ?_
        · (intro b hb w hT; go_simp; exact Lands.value hT)
        try simp only [Act.put, List.getElem_toArray, List.getElem_cons_succ, List.getElem_cons_zero, List.setIfInBounds_toArray, List.set_cons_zero, List.set_cons_succ]
        refine wpT_take (i := 15) (v := .tuple #[]) rfl (by kernel_rfl) (by kernel_rfl) (by kernel_rfl) (Or.inl ⟨by rfl, ?_⟩) ?_
        · (intro b hb w hT; obtain rfl : b = false := hb rfl; go_simp; exact Lands.enter ((setText_any bp lb l (putM l k v p) k pc dv w hT.1).mono fun e w' h => ⟨h.1, hT.set h.2.1 h.2.2 NE.out.1 NE.out.2⟩))
        try simp only [Act.put, List.getElem_toArray, List.getElem_cons_succ, List.getElem_cons_zero, List.setIfInBounds_toArray, List.set_cons_zero, List.set_cons_succ]
        refine wpT_done (by kernel_rfl) ?_ _
        intro wt hT
        refine NoPanic.normal ?_
        have BZ : Hid (B9 wt bp lb (putM l k v p) k pc dv) := hT.1
        have TZ := Lib.hid hT.2.1
        clear hT T0 f1
        have g2 := BZ.out.c2
        have KV := Lib.hid (show (k : Int) + (v.length : Int) = ((k + v.length : Nat) : Int) by omega)
        go_wp2_with (refine wpList_runes rfl 9 42 21 _ (tx v) rfl rfl (by kernel_rfl) (by kernel_rfl) (by kernel_rfl) (by rw [tx_size]; omega) ?_; intro v4 w4 o4 r4 hv4 own4; have B4 := Lib.hid (BZ.out.old o4); have T4 := Lib.hid (TZ.out.old o4); have g4 := B4.out.c2; have f4 := B4.out.free 2; rw [runes_tx OV.out] at hv4; obtain ⟨vb4, vc4, rfl⟩ := hv4; rw [List.length_map]; clear o4 r4 own4)
        go_end0
        refine ⟨rfl, ?_⟩
        have e := KV.out
        rw [e]
        exact ⟨⟨_, B4.out.setC (k + v.length)⟩, T4.out.stored bp 2 _ (Or.inl rfl)⟩
      · have hv2 : m = vc := by omega
        subst hv2
        have e9 : l.length - m = 0 := by omega
        have HM : Hid (l.length ≤ m) := by unfold Hid; omega
        refine wp_region_noPanic ?_
        refine wp_region_T (TI w bp lb l (putM l k v p) k pc dv vb m) 15 (by kernel_rfl) (T0) ?_
        refine wpT_take (i := 0) (v := ?_) rfl (by kernel_rfl) (by kernel_rfl) (by kernel_rfl) (Or.inl ⟨by rfl, ?_⟩) ?_
        rotate_left
        · (intro b hb w hT; go_simp; exact Lands.value hT)
        try simp only [Act.put, List.getElem_toArray, List.getElem_cons_succ, List.getElem_cons_zero, List.setIfInBounds_toArray, List.set_cons_zero, List.set_cons_succ]
        refine wpT_take (i := 1) (v := ?_) rfl (by kernel_rfl) (by kernel_rfl) (by kernel_rfl) (Or.inl ⟨by rfl, ?_⟩) ?_
        rotate_left
        · (intro b hb w hT; go_simp; exact Lands.value hT)
        try simp only [Act.put, List.getElem_toArray, List.getElem_cons_succ, List.getElem_cons_zero, List.setIfInBounds_toArray, List.set_cons_zero, List.set_cons_succ]
        refine wpT_take (i := 2) (v := ?_) rfl (by kernel_rfl) (by kernel_rfl) (by kernel_rfl) (Or.inl ⟨by rfl, ?_⟩) ?_
        rotate_left
        · (intro b hb w hT; go_simp; exact Lands.value hT)
        try simp only [Act.put, List.getElem_toArray, List.getElem_cons_succ, List.getElem_cons_zero, List.setIfInBounds_toArray, List.set_cons_zero, List.set_cons_succ]
        refine wpT_take (i := 3) (v := ?_) rfl (by kernel_rfl) (by kernel_rfl) (by kernel_rfl) (Or.inl ⟨by rfl, ?_⟩) ?_
        rotate_left
        · (intro b hb w hT; go_simp; exact Lands.value hT)
        try simp only [Act.put, List.getElem_toArray, List.getElem_cons_succ, List.getElem_cons_zero, List.setIfInBounds_toArray, List.set_cons_zero, List.set_cons_succ]
        refine wpT_take (i := 4) (v := .string (tx (l.take k))) rfl (by kernel_rfl) (by kernel_rfl) (by kernel_rfl) (Or.inl ⟨by rfl, ?_⟩) ?_
        · (intro b hb w hT; refine Lands.conv (w1 := w) 42 9 _ _ rfl rfl ((runes_back w 42 9 21 _ _ (by kernel_rfl) (by kernel_rfl) (by kernel_rfl) (hT.2.2.pre hk)).trans (by rw [back_tx (OK.out.take k)])) ?_; exact hT)
        try simp only [Act.put, List.getElem_toArray, List.getElem_cons_succ, List.getElem_cons_zero, List.setIfInBounds_toArray, List.set_cons_zero, List.set_cons_succ]
        refine wpT_take (i := 5) (v := ?_) rfl (by kernel_rfl) (by kernel_rfl) (by kernel_rfl) (Or.inl ⟨by rfl, ?_⟩) ?_
        rotate_left
        · (intro b hb w hT; go_simp; exact Lands.value hT)
        try simp only [Act.put, List.getElem_toArray, List.getElem_cons_succ, List.getElem_cons_zero, List.setIfInBounds_toArray, List.set_cons_zero, List.set_cons_succ]
        refine wpT_take (i := 6) (v := .string (tx (l.take k ++ v))) rfl (by kernel_rfl) (by kernel_rfl) (by kernel_rfl) (Or.inl ⟨by rfl, ?_⟩) ?_
        · (intro b hb w hT; go_simp; exact Lands.value hT)
        try simp only [Act.put, List.getElem_toArray, List.getElem_cons_succ, List.getElem_cons_zero, List.setIfInBounds_toArray, List.set_cons_zero, List.set_cons_succ]
        refine wpT_take (i := 7) (v := ?_) rfl (by kernel_rfl) (by kernel_rfl) (by kernel_rfl) (Or.inl ⟨by rfl, ?_⟩) ?_
        rotate_left
        · (intro b hb w hT; go_simp; exact Lands.value hT)
        try simp only [Act.put, List.getElem_toArray, List.getElem_cons_succ, List.getElem_cons_zero, List.setIfInBounds_toArray, List.set_cons_zero, List.set_cons_succ]
        refine wpT_take (i := 8) (v := ?_) rfl (by kernel_rfl) (by kernel_rfl) (by kernel_rfl) (Or.inl ⟨by rfl, ?_⟩) ?_
        rotate_left
        · (intro b hb w hT; go_simp; exact Lands.value hT)
        try simp only [Act.put, List.getElem_toArray, List.getElem_cons_succ, List.getElem_cons_zero, List.setIfInBounds_toArray, List.set_cons_zero, List.set_cons_succ]
        refine wpT_take (i := 9) (v := ?_) rfl (by kernel_rfl) (by kernel_rfl) (by kernel_rfl) (Or.inl ⟨by rfl, ?_⟩) ?_
        rotate_left
        · (intro b hb w hT; go_simp; exact Lands.value hT)
        try simp only [Act.put, List.getElem_toArray, List.getElem_cons_succ, List.getElem_cons_zero, List.setIfInBounds_toArray, List.set_cons_zero, List.set_cons_succ]
        refine wpT_take (i := 10) (v := .int .i64 p) rfl (by kernel_rfl) (by kernel_rfl) (by kernel_rfl) (Or.inl ⟨by rfl, ?_⟩) ?_
        · (intro b hb w hT; go_simp; exact Lands.value hT)
        try simp only [Act.put, List.getElem_toArray, List.getElem_cons_succ, List.getElem_cons_zero, List.setIfInBounds_toArray, List.set_cons_zero, List.set_cons_succ]
        refine wpT_take (i := 11) (v := .int .i64 m) rfl (by kernel_rfl) (by kernel_rfl) (by kernel_rfl) (Or.inl ⟨by rfl, ?_⟩) ?_
        · (intro b hb w hT; go_simp; exact Lands.value hT)
        try simp only [Act.put, List.getElem_toArray, List.getElem_cons_succ, List.getElem_cons_zero, List.setIfInBounds_toArray, List.set_cons_zero, List.set_cons_succ]
        refine wpT_take (i := 12) (v := .slice (some ⟨vb, 0, none⟩) 0 0) rfl (by kernel_rfl) (by kernel_rfl) (by kernel_rfl) (Or.inl ⟨by rfl, ?_⟩) ?_
        · (intro b hb w hT; go_simp; exact Lands.value hT)
        try simp only [Act.put, List.getElem_toArray, List.getElem_cons_succ, List.getElem_cons_zero, List.setIfInBounds_toArray, List.set_cons_zero, List.set_cons_succ]
        refine wpT_take (i := 13) (v := .string (tx (l.drop m))) rfl (by kernel_rfl) (by kernel_rfl) (by kernel_rfl) (Or.inl ⟨by rfl, ?_⟩) ?_
        · (intro b hb w hT; refine Lands.conv (w1 := w) 42 9 _ _ rfl rfl ((runes_back w 42 9 21 _ _ (by kernel_rfl) (by kernel_rfl) (by kernel_rfl) hT.2.2.none).trans (by rw [nil_tx (l := l) (k := m) HM.out])) ?_; exact hT)
        try simp only [Act.put, List.getElem_toArray, List.getElem_cons_succ, List.getElem_cons_zero, List.setIfInBounds_toArray, List.set_cons_zero, List.set_cons_succ]
        refine wpT_take (i := 14) (v := .string (tx (putM l k v p))) rfl (by kernel_rfl) (by kernel_rfl) (by kernel_rfl) (Or.inl ⟨by rfl, ?_⟩) ?_
        · (intro b hb w hT; go_simp; exact Lands.value hT)
        try simp only [Act.put, List.getElem_toArray, List.getElem_cons_succ, List.getElem_cons_zero, List.setIfInBounds_toArray, List.set_cons_zero, List.set_cons_succ]
        refine wpT_take (i := 15) (v := .tuple #[]) rfl (by kernel_rfl) (by kernel_rfl) (by kernel_rfl) (Or.inl ⟨by rfl, ?_⟩) ?_
        · (intro b hb w hT; obtain rfl : b = false := hb rfl; go_simp; exact Lands.enter ((setText_any bp lb l (putM l k v p) k pc dv w hT.1).mono fun e w' h => ⟨h.1, hT.set h.2.1 h.2.2 NE.out.1 NE.out.2⟩))
        try simp only [Act.put, List.getElem_toArray, List.getElem_cons_succ, List.getElem_cons_zero, List.setIfInBounds_toArray, List.set_cons_zero, List.set_cons_succ]
        refine wpT_done (by kernel_rfl) ?_ _
        intro wt hT
        refine NoPanic.normal ?_
        have BZ : Hid (B9 wt bp lb (putM l k v p) k pc dv) := hT.1
        have TZ := Lib.hid hT.2.1
        clear hT T0 f1
        have g2 := BZ.out.c2
        have KV := Lib.hid (show (k : Int) + (v.length : Int) = ((k + v.length : Nat) : Int) by omega)
        go_wp2_with (refine wpList_runes rfl 9 42 21 _ (tx v) rfl rfl (by kernel_rfl) (by kernel_rfl) (by kernel_rfl) (by rw [tx_size]; omega) ?_; intro v4 w4 o4 r4 hv4 own4; have B4 := Lib.hid (BZ.out.old o4); have T4 := Lib.hid (TZ.out.old o4); have g4 := B4.out.c2; have f4 := B4.out.free 2; rw [runes_tx OV.out] at hv4; obtain ⟨vb4, vc4, rfl⟩ := hv4; rw [List.length_map]; clear o4 r4 own4)
        go_end0
        refine ⟨rfl, ?_⟩
        have e := KV.out
        rw [e]
        exact ⟨⟨_, B4.out.setC (k + v.length)⟩, T4.out.stored bp 2 _ (Or.inl rfl)⟩
  · have hk9 : k = vc := by omega
    subst hk9
    have hv0 : v.length = 0 := by omega
    have CV := MT.out 0 0 (fun h => absurd h (by omega)) (by omega) (by unfold maxLen; omega)
    rw [hv0] at CV hqk
    clear hv0
    by_cases hf : 0 ≤ fidx nl t
    · have DF := Lib.hid (show decide (0 ≤ fidx nl t) = true by simpa using hf)
      have E5 := Lib.hid (fidx_flen hf).1
      have hpt : p ≤ t.length := by have := (fidx_flen hf).2; rw [hov.out]; omega
      have ip : (p : Int) ≤ t.length := by omega
      have ip0 : (0 : Int) ≤ p := by omega
      have hex : (tx t).extract 0 p = tx (t.take p) := ext_preE
      have hS : (tx (t.take p)).size = p := by rw [tx_size, List.length_take]; omega
      have hp5 : Hid (fidx nl t = (p : Int)) := by unfold Hid; rw [E5.out, ← hov.out]
      have htn := OT.out.n
      clear hf
      go_upto_region 7 with (first
        | (go_at_call 56; refine (cont_any t _ htn).mono ?_; rw [DF.out]; rintro e w3 ⟨rfl, rfl⟩)
        | (go_at_call 105; refine (ia_any t [10] _ OT.out okT_nl).mono ?_; rw [nl_setE, hp5.out]; rintro e w4 ⟨rfl, o4⟩; have O4 := Lib.hid o4; clear o4))
      have WX : Hid (Old w w4) := O2.out.trans O4.out
      obtain ⟨S, hSS⟩ : ∃ S, S = tx (t.take p) := ⟨_, rfl⟩
      rw [← hSS] at hS ⊢
      clear hSS hex
      have RX : Hid (RunesAt w4 (.slice (some ⟨vb, 0, none⟩) l.length k) (l.map fun c => (c.toNat : Int))) := R2.out.later O4.out
      generalize w4 = wy at WX RX ⊢
      obtain ⟨hap1, hap3, hcat1, hcat2, j1, j2, j3, e0, j0⟩ := ALL.out
      have T0 : TI w bp lb l (putM l k v p) k pc dv vb k false wy.drew := ⟨H.out.old (WX.out.then_drew), Two.of_old (WX.out.then_drew), RX.out.later (Old.drew _)⟩
      have f1 := FM.out
      clear f0 hsv
      rcases Nat.lt_or_ge m k with hv | hv
      · exact absurd hv (by omega)
      · have hv2 : k = m := by omega
        subst hv2
        have e9 : l.length - k = 0 := by omega
        have HM : Hid (l.length ≤ k) := by unfold Hid; omega
        refine wp_region_noPanic ?_
        refine wp_region_T (TI w bp lb l (putM l k v p) k pc dv vb k) 15 (by kernel_rfl) (T0) ?_
        refine wpT_take (i := 0) (v := ?_) rfl (by kernel_rfl) (by kernel_rfl) (by kernel_rfl) (Or.inl ⟨by rfl, ?_⟩) ?_
        rotate_left
        · (intro b hb w hT; go_simp; exact Lands.value hT)
        try simp only [Act.put, List.getElem_toArray, List.getElem_cons_succ, List.getElem_cons_zero, List.setIfInBounds_toArray, List.set_cons_zero, List.set_cons_succ]
        refine wpT_take (i := 1) (v := ?_) rfl (by kernel_rfl) (by kernel_rfl) (by kernel_rfl) (Or.inl ⟨by rfl, ?_⟩) ?_
        rotate_left
        · (intro b hb w hT; go_simp; exact Lands.value hT)
        try simp only [Act.put, List.getElem_toArray, List.getElem_cons_succ, List.getElem_cons_zero, List.setIfInBounds_toArray, List.set_cons_zero, List.set_cons_succ]
        refine wpT_take (i := 2) (v := ?_) rfl (by kernel_rfl) (by kernel_rfl) (by kernel_rfl) (Or.inl ⟨by rfl, ?_⟩) ?_
        rotate_left
        · (intro b hb w hT; go_simp; exact Lands.value hT)
        try simp only [Act.put, List.getElem_toArray, List.getElem_cons_succ, List.getElem_cons_zero, List.setIfInBounds_toArray, List.set_cons_zero, List.set_cons_succ]
        refine wpT_take (i := 3) (v := ?_) rfl (by kernel_rfl) (by kernel_rfl) (by kernel_rfl) (Or.inl ⟨by rfl, ?_⟩) ?_
        rotate_left
        · (intro b hb w hT; go_simp; exact Lands.value hT)
        try simp only [Act.put, List.getElem_toArray, List.getElem_cons_succ, List.getElem_cons_zero, List.setIfInBounds_toArray, List.set_cons_zero, List.set_cons_succ]
        refine wpT_take (i := 4) (v := .string (tx (l.take k))) rfl (by kernel_rfl) (by kernel_rfl) (by kernel_rfl) (Or.inl ⟨by rfl, ?_⟩) ?_
        · (intro b hb w hT; refine Lands.conv (w1 := w) 42 9 _ _ rfl rfl ((runes_back w 42 9 21 _ _ (by kernel_rfl) (by kernel_rfl) (by kernel_rfl) (hT.2.2.pre hk)).trans (by rw [back_tx (OK.out.take k)])) ?_; exact hT)
        try simp only [Act.put, List.getElem_toArray, List.getElem_cons_succ, List.getElem_cons_zero, List.setIfInBounds_toArray, List.set_cons_zero, List.set_cons_succ]
        refine wpT_take (i := 5) (v := ?_) rfl (by kernel_rfl) (by kernel_rfl) (by kernel_rfl) (Or.inl ⟨by rfl, ?_⟩) ?_
        rotate_left
        · (intro b hb w hT; go_simp; exact Lands.value hT)
        try simp only [Act.put, List.getElem_toArray, List.getElem_cons_succ, List.getElem_cons_zero, List.setIfInBounds_toArray, List.set_cons_zero, List.set_cons_succ]
        refine wpT_take (i := 6) (v := .string (tx (l.take k ++ v))) rfl (by kernel_rfl) (by kernel_rfl) (by kernel_rfl) (Or.inl ⟨by rfl, ?_⟩) ?_
        · (intro b hb w hT; go_simp; exact Lands.value hT)
        try simp only [Act.put, List.getElem_toArray, List.getElem_cons_succ, List.getElem_cons_zero, List.setIfInBounds_toArray, List.set_cons_zero, List.set_cons_succ]
        refine wpT_take (i := 7) (v := ?_) rfl (by kernel_rfl) (by kernel_rfl) (by kernel_rfl) (Or.inl ⟨by rfl, ?_⟩) ?_
        rotate_left
        · (intro b hb w hT; go_simp; exact Lands.value hT)
        try simp only [Act.put, List.getElem_toArray, List.getElem_cons_succ, List.getElem_cons_zero, List.setIfInBounds_toArray, List.set_cons_zero, List.set_cons_succ]
        refine wpT_take (i := 8) (v := ?_) rfl (by kernel_rfl) (by kernel_rfl) (by kernel_rfl) (Or.inl ⟨by rfl, ?_⟩) ?_
        rotate_left
        · (intro b hb w hT; go_simp; exact Lands.value hT)
        try simp only [Act.put, List.getElem_toArray, List.getElem_cons_succ, List.getElem_cons_zero, List.setIfInBounds_toArray, List.set_cons_zero, List.set_cons_succ]
        refine wpT_take (i := 9) (v := ?_) rfl (by kernel_rfl) (by kernel_rfl) (by kernel_rfl) (Or.inl ⟨by rfl, ?_⟩) ?_
        rotate_left
        · (intro b hb w hT; go_simp; exact Lands.value hT)
        try simp only [Act.put, List.getElem_toArray, List.getElem_cons_succ, List.getElem_cons_zero, List.setIfInBounds_toArray, List.set_cons_zero, List.set_cons_succ]
        refine wpT_take (i := 10) (v := .int .i64 p) rfl (by kernel_rfl) (by kernel_rfl) (by kernel_rfl) (Or.inl ⟨by rfl, ?_⟩) ?_
        · (intro b hb w hT; go_simp; exact Lands.value hT)
        try simp only [Act.put, List.getElem_toArray, List.getElem_cons_succ, List.getElem_cons_zero, List.setIfInBounds_toArray, List.set_cons_zero, List.set_cons_succ]
        refine wpT_take (i := 11) (v := .int .i64 k) rfl (by kernel_rfl) (by kernel_rfl) (by kernel_rfl) (Or.inl ⟨by rfl, ?_⟩) ?_
        · (intro b hb w hT; go_simp; exact Lands.value hT)
        try simp only [Act.put, List.getElem_toArray, List.getElem_cons_succ, List.getElem_cons_zero, List.setIfInBounds_toArray, List.set_cons_zero, List.set_cons_succ]
        refine wpT_take (i := 12) (v := .slice (some ⟨vb, 0, none⟩) 0 0) rfl (by kernel_rfl) (by kernel_rfl) (by kernel_rfl) (Or.inl ⟨by rfl, ?_⟩) ?_
        · (intro b hb w hT; go_simp; exact Lands.value hT)
        try simp only [Act.put, List.getElem_toArray, List.getElem_cons_succ, List.getElem_cons_zero, List.setIfInBounds_toArray, List.set_cons_zero, List.set_cons_succ]
        refine wpT_take (i := 13) (v := .string (tx (l.drop k))) rfl (by kernel_rfl) (by kernel_rfl) (by kernel_rfl) (Or.inl ⟨by rfl, ?_⟩) ?_
        · (intro b hb w hT; refine Lands.conv (w1 := w) 42 9 _ _ rfl rfl ((runes_back w 42 9 21 _ _ (by kernel_rfl) (by kernel_rfl) (by kernel_rfl) hT.2.2.none).trans (by rw [nil_tx (l := l) (k := k) HM.out])) ?_; exact hT)
        try simp only [Act.put, List.getElem_toArray, List.getElem_cons_succ, List.getElem_cons_zero, List.setIfInBounds_toArray, List.set_cons_zero, List.set_cons_succ]
        refine wpT_take (i := 14) (v := .string (tx (putM l k v p))) rfl (by kernel_rfl) (by kernel_rfl) (by kernel_rfl) (Or.inl ⟨by rfl, ?_⟩) ?_
        · (intro b hb w hT; go_simp; exact Lands.value hT)
        try simp only [Act.put, List.getElem_toArray, List.getElem_cons_succ, List.getElem_cons_zero, List.setIfInBounds_toArray, List.set_cons_zero, List.set_cons_succ]
        refine wpT_take (i := 15) (v := .tuple #[]) rfl (by kernel_rfl) (by kernel_rfl) (by kernel_rfl) (Or.inl ⟨by rfl, ?_⟩) ?_
        · (intro b hb w hT; obtain rfl : b = false := hb rfl; go_simp; exact Lands.enter ((setText_any bp lb l (putM l k v p) k pc dv w hT.1).mono fun e w' h => ⟨h.1, hT.set h.2.1 h.2.2 NE.out.1 NE.out.2⟩))
        try simp only [Act.put, List.getElem_toArray, List.getElem_cons_succ, List.getElem_cons_zero, List.setIfInBounds_toArray, List.set_cons_zero, List.set_cons_succ]
        refine wpT_done (by kernel_rfl) ?_ _
        intro wt hT
        refine NoPanic.normal ?_
        have BZ : Hid (B9 wt bp lb (putM l k v p) k pc dv) := hT.1
        have TZ := Lib.hid hT.2.1
        clear hT T0 f1
        have g2 := BZ.out.c2
        have KV := Lib.hid (show (k : Int) + (v.length : Int) = ((k + v.length : Nat) : Int) by omega)
        go_wp2_with (refine wpList_runes rfl 9 42 21 _ (tx v) rfl rfl (by kernel_rfl) (by kernel_rfl) (by kernel_rfl) (by rw [tx_size]; omega) ?_; intro v4 w4 o4 r4 hv4 own4; have B4 := Lib.hid (BZ.out.old o4); have T4 := Lib.hid (TZ.out.old o4); have g4 := B4.out.c2; have f4 := B4.out.free 2; rw [runes_tx OV.out] at hv4; obtain ⟨vb4, vc4, rfl⟩ := hv4; rw [List.length_map]; clear o4 r4 own4)
        go_end0
        refine ⟨rfl, ?_⟩
        have e := KV.out
        rw [e]
        exact ⟨⟨_, B4.out.setC (k + v.length)⟩, T4.out.stored bp 2 _ (Or.inl rfl)⟩
    · have DF := Lib.hid (show decide (0 ≤ fidx nl t) = false by simpa using hf)
      have hpt : p = t.length := by rw [hov.out]; exact (fidx_neg (p := nl) (l := t) (by omega)).2
      have hS : (tx t).size = p := by rw [tx_size, hpt]
      have htn := OT.out.n
      clear hf hpt hst
      go_upto_region 7 with (first
        | (go_at_call 56; refine (cont_any t _ htn).mono ?_; rw [DF.out]; rintro e w3 ⟨rfl, rfl⟩))
      obtain ⟨S, hSS⟩ : ∃ S, S = tx t := ⟨_, rfl⟩
      rw [← hSS] at hS ⊢
      clear hSS
      have WX : Hid (Old w w2) := O2.out
      have RX : Hid (RunesAt w2 (.slice (some ⟨vb, 0, none⟩) l.length k) (l.map fun c => (c.toNat : Int))) := R2.out
      obtain ⟨wy, hwy⟩ : ∃ wy, wy = w2 := ⟨_, rfl⟩
      rw [← hwy] at WX RX ⊢
      clear hwy
      obtain ⟨hap1, hap3, hcat1, hcat2, j1, j2, j3, e0, j0⟩ := ALL.out
      have T0 : TI w bp lb l (putM l k v p) k pc dv vb k false wy.drew := ⟨H.out.old (WX.out.then_drew), Two.of_old (WX.out.then_drew), RX.out.later (Old.drew _)⟩
      have f1 := FM.out
      clear f0 hsv
      rcases Nat.lt_or_ge m k with hv | hv
      · exact absurd hv (by omega)
      · have hv2 : k = m := by omega
        subst hv2
        have e9 : l.length - k = 0 := by omega
        have HM : Hid (l.length ≤ k) := by unfold Hid; omega
        refine wp_region_noPanic ?_
        refine wp_region_T (TI w bp lb l (putM l k v p) k pc dv vb k) 15 (by kernel_rfl) (T0) ?_
        refine wpT_take (i := 0) (v := ?_) rfl (by kernel_rfl) (by kernel_rfl) (by kernel_rfl) (Or.inl ⟨by rfl, ?_⟩) ?_
        rotate_left
        · (intro b hb w hT; go_simp; exact Lands.value hT)
        try simp only [Act.put, List.getElem_toArray, List.getElem_cons_succ, List.getElem_cons_zero, List.setIfInBounds_toArray, List.set_cons_zero, List.set_cons_succ]
        refine wpT_take (i := 1) (v := ?_) rfl (by kernel_rfl) (by kernel_rfl) (by kernel_rfl) (Or.inl ⟨by rfl, ?_⟩) ?_
        rotate_left
        · (intro b hb w hT; go_simp; exact Lands.value hT)
        try simp only [Act.put, List.getElem_toArray, List.getElem_cons_succ, List.getElem_cons_zero, List.setIfInBounds_toArray, List.set_cons_zero, List.set_cons_succ]
        refine wpT_take (i := 2) (v := ?_) rfl (by kernel_rfl) (by kernel_rfl) (by kernel_rfl) (Or.inl ⟨by rfl, ?_⟩) ?_
        rotate_left
        · (intro b hb w hT; go_simp; exact Lands.value hT)
        try simp only [Act.put, List.getElem_toArray, List.getElem_cons_succ, List.getElem_cons_zero, List.setIfInBounds_toArray, List.set_cons_zero, List.set_cons_succ]
        refine wpT_take (i := 3) (v := ?_) rfl (by kernel_rfl) (by kernel_rfl) (by kernel_rfl) (Or.inl ⟨by rfl, ?_⟩) ?_
        rotate_left
        · (intro b hb w hT; go_simp; exact Lands.value hT)
        try simp only [Act.put, List.getElem_toArray, List.getElem_cons_succ, List.getElem_cons_zero, List.setIfInBounds_toArray, List.set_cons_zero, List.set_cons_succ]
        refine wpT_take (i := 4) (v := .string (tx (l.take k))) rfl (by kernel_rfl) (by kernel_rfl) (by kernel_rfl) (Or.inl ⟨by rfl, ?_⟩) ?_
        · (intro b hb w hT; refine Lands.conv (w1 := w) 42 9 _ _ rfl rfl ((runes_back w 42 9 21 _ _ (by kernel_rfl) (by kernel_rfl) (by kernel_rfl) (hT.2.2.pre hk)).trans (by rw [back_tx (OK.out.take k)])) ?_; exact hT)
        try simp only [Act.put, List.getElem_toArray, List.getElem_cons_succ, List.getElem_cons_zero, List.setIfInBounds_toArray, List.set_cons_zero, List.set_cons_succ]
        refine wpT_take (i := 5) (v := ?_) rfl (by kernel_rfl) (by kernel_rfl) (by kernel_rfl) (Or.inl ⟨by rfl, ?_⟩) ?_
        rotate_left
        · (intro b hb w hT; go_simp; exact Lands.value hT)
        try simp only [Act.put, List.getElem_toArray, List.getElem_cons_succ, List.getElem_cons_zero, List.setIfInBounds_toArray, List.set_cons_zero, List.set_cons_succ]
        refine wpT_take (i := 6) (v := .string (tx (l.take k ++ v))) rfl (by kernel_rfl) (by kernel_rfl) (by kernel_rfl) (Or.inl ⟨by rfl, ?_⟩) ?_
        · (intro b hb w hT; go_simp; exact Lands.value hT)
        try simp only [Act.put, List.getElem_toArray, List.getElem_cons_succ, List.getElem_cons_zero, List.setIfInBounds_toArray, List.set_cons_zero, List.set_cons_succ]
        refine wpT_take (i := 7) (v := ?_) rfl (by kernel_rfl) (by kernel_rfl) (by kernel_rfl) (Or.inl ⟨by rfl, ?_⟩) ?_
        rotate_left
        · (intro b hb w hT; go_simp; exact Lands.value hT)
        try simp only [Act.put, List.getElem_toArray, List.getElem_cons_succ, List.getElem_cons_zero, List.setIfInBounds_toArray, List.set_cons_zero, List.set_cons_succ]
        refine wpT_take (i := 8) (v := ?_) rfl (by kernel_rfl) (by kernel_rfl) (by kernel_rfl) (Or.inl ⟨by rfl, ?_⟩) ?_
        rotate_left
        · (intro b hb w hT; go_simp; exact Lands.value hT)
        try simp only [Act.put, List.getElem_toArray, List.getElem_cons_succ, List.getElem_cons_zero, List.setIfInBounds_toArray, List.set_cons_zero, List.set_cons_succ]
        refine wpT_take (i := 9) (v := ?_) rfl (by kernel_rfl) (by kernel_rfl) (by kernel_rfl) (Or.inl ⟨by rfl, ?_⟩) ?_
        rotate_left
        · (intro b hb w hT; go_simp; exact Lands.value hT)
        try simp only [Act.put, List.getElem_toArray, List.getElem_cons_succ, List.getElem_cons_zero, List.setIfInBounds_toArray, List.set_cons_zero, List.set_cons_succ]
        refine wpT_take (i := 10) (v := .int .i64 p) rfl (by kernel_rfl) (by kernel_rfl) (by kernel_rfl) (Or.inl ⟨by rfl, ?_⟩) ?_
        · (intro b hb w hT; go_simp; exact Lands.value hT)
        try simp only [Act.put, List.getElem_toArray, List.getElem_cons_succ, List.getElem_cons_zero, List.setIfInBounds_toArray, List.set_cons_zero, List.set_cons_succ]
        refine wpT_take (i := 11) (v := .int .i64 k) rfl (by kernel_rfl) (by kernel_rfl) (by kernel_rfl) (Or.inl ⟨by rfl, ?_⟩) ?_
        · (intro b hb w hT; go_simp; exact Lands.value hT)
        try simp only [Act.put, List.getElem_toArray, List.getElem_cons_succ, List.getElem_cons_zero, List.setIfInBounds_toArray, List.set_cons_zero, List.set_cons_succ]
        refine wpT_take (i := 12) (v := .slice (some ⟨vb, 0, none⟩) 0 0) rfl (by kernel_rfl) (by kernel_rfl) (by kernel_rfl) (Or.inl ⟨by rfl, ?_⟩) ?_
        · (intro b hb w hT; go_simp; exact Lands.value hT)
        try simp only [Act.put, List.getElem_toArray, List.getElem_cons_succ, List.getElem_cons_zero, List.setIfInBounds_toArray, List.set_cons_zero, List.set_cons_succ]
        refine wpT_take (i := 13) (v := .string (tx (l.drop k))) rfl (by kernel_rfl) (by kernel_rfl) (by kernel_rfl) (Or.inl ⟨by rfl, ?_⟩) ?_
        · (intro b hb w hT; refine Lands.conv (w1 := w) 42 9 _ _ rfl rfl ((runes_back w 42 9 21 _ _ (by kernel_rfl) (by kernel_rfl) (by kernel_rfl) hT.2.2.none).trans (by rw [nil_tx (l := l) (k := k) HM.out])) ?_; exact hT)
        try simp only [Act.put, List.getElem_toArray, List.getElem_cons_succ, List.getElem_cons_zero, List.setIfInBounds_toArray, List.set_cons_zero, List.set_cons_succ]
        refine wpT_take (i := 14) (v := .string (tx (putM l k v p))) rfl (by kernel_rfl) (by kernel_rfl) (by kernel_rfl) (Or.inl ⟨by rfl, ?_⟩) ?_
        · (intro b hb w hT; go_simp; exact Lands.value hT)
        try simp only [Act.put, List.getElem_toArray, List.getElem_cons_succ, List.getElem_cons_zero, List.setIfInBounds_toArray, List.set_cons_zero, List.set_cons_succ]
        refine wpT_take (i := 15) (v := .tuple #[]) rfl (by kernel_rfl) (by kernel_rfl) (by kernel_rfl) (Or.inl ⟨by rfl, ?_⟩) ?_
        · (intro b hb w hT; obtain rfl : b = false := hb rfl; go_simp; exact Lands.enter ((setText_any bp lb l (putM l k v p) k pc dv w hT.1).mono fun e w' h => ⟨h.1, hT.set h.2.1 h.2.2 NE.out.1 NE.out.2⟩))
        try simp only [Act.put, List.getElem_toArray, List.getElem_cons_succ, List.getElem_cons_zero, List.setIfInBounds_toArray, List.set_cons_zero, List.set_cons_succ]
        refine wpT_done (by kernel_rfl) ?_ _
        intro wt hT
        refine NoPanic.normal ?_
        have BZ : Hid (B9 wt bp lb (putM l k v p) k pc dv) := hT.1
        have TZ := Lib.hid hT.2.1
        clear hT T0 f1
        have g2 := BZ.out.c2
        have KV := Lib.hid (show (k : Int) + (v.length : Int) = ((k + v.length : Nat) : Int) by omega)
        go_wp2_with (refine wpList_runes rfl 9 42 21 _ (tx v) rfl rfl (by kernel_rfl) (by kernel_rfl) (by kernel_rfl) (by rw [tx_size]; omega) ?_; intro v4 w4 o4 r4 hv4 own4; have B4 := Lib.hid (BZ.out.old o4); have T4 := Lib.hid (TZ.out.old o4); have g4 := B4.out.c2; have f4 := B4.out.free 2; rw [runes_tx OV.out] at hv4; obtain ⟨vb4, vc4, rfl⟩ := hv4; rw [List.length_map]; clear o4 r4 own4)
        go_end0
        refine ⟨rfl, ?_⟩
        have e := KV.out
        rw [e]
        exact ⟨⟨_, B4.out.setC (k + v.length)⟩, T4.out.stored bp 2 _ (Or.inl rfl)⟩
end Go.Proofs.YtleamondilmojaaDoor
