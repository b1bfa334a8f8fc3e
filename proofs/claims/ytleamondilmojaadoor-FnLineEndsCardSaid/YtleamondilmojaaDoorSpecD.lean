/- The reference's documents: texts ahead of a cursor and behind it, lines. -/
import Derived.Test.YtleamondilmojaaDoorSpecF
import Derived.Test.YtleamondilmojaaDoorDocL
import Derived.Test.YtleamondilmojaaDoorStepA
import Derived.Deep.Cut
import Derived.Deep.RegionHeld3
namespace Go.Proofs.YtleamondilmojaaDoor
open Go.RowKit
set_option linter.unusedVariables false
set_option linter.unusedSimpArgs false
set_option linter.unnecessarySimpa false
set_option maxRecDepth 100000

theorem nl_set : setP [10] false = nl := by
  funext c
  unfold setP hasb nl
  by_cases h : c = 10
  · subst h; rfl
  · have h1 : (c == 10) = false := by rw [beq_eq_false_iff_ne]; exact h
    have h2 : List.contains [(10 : UInt8)] c = false := by simp [h1]; exact h
    rw [h1, h2]; rfl
theorem tx10 : (⟨#[10]⟩ : ByteArray) = tx [10] := rfl
theorem before_any (l : Bs) (k : Nat) (w : World) (hk : k ≤ l.length) (ok : okT l) : Calls Tryd.prog 18 #[.agg #[.string (tx l), .int .i64 k]] w fun e w' => e = .returned (.string (tx (l.take k))) ∧ Old w w' := by
  have OK := Lib.hid ok
  have hn := ok.n
  clear ok
  go_enter Tryd.func18, Tryd.ntmps18
  go_upto_region 1 with fail
  have c0 : (w.alloc (.cells #[.string (tx l), .int .i64 k] 34)).cell? ⟨w.heap.size, 0, none⟩ = some (.string (tx l)) := (World.cell?_alloc_mark w #[.string (tx l), .int .i64 k] 34 (0, 0) 0).trans rfl
  have c1 : (w.alloc (.cells #[.string (tx l), .int .i64 k] 34)).cell? ⟨w.heap.size, 1, none⟩ = some (.int .i64 k) := (World.cell?_alloc_mark w #[.string (tx l), .int .i64 k] 34 (0, 0) 1).trans rfl
  have OA := Lib.hid (Old.alloc w (.cells #[.string (tx l), .int .i64 k] 34))
  generalize w.alloc (.cells #[.string (tx l), .int .i64 k] 34) = w0 at c0 c1 OA ⊢
  have hlt := World.block_lt_of_cell? w0 _ c0
  go_wp2_with (first
    | (refine wpList_runes rfl 9 42 21 _ (tx l) rfl rfl (by kernel_rfl) (by kernel_rfl) (by kernel_rfl) (by rw [tx_size]; omega) ?_; intro vv w2 o2 r2 hv2 own2; have d1 := (o2.cell (o := 1) hlt).trans c1; have O2 := Lib.hid (OA.out.trans o2); rw [runes_tx OK.out] at hv2 r2; obtain ⟨vb, vc, rfl⟩ := hv2; rw [List.length_map] at r2; rw [List.length_map]; have R2 := Lib.hid r2; obtain ⟨_, _, _, eq, q1, q2, _⟩ := r2; injection eq with eq1 eq2 eq3; subst eq3; rw [List.length_map] at q1; unfold maxLen at q2; have i1 : (k : Int) ≤ vc := (by omega); clear o2 own2 eq1 eq2)
    | (refine wpList_convert rfl 42 9 _ _ rfl rfl (runes_back w2 42 9 21 _ _ (by kernel_rfl) (by kernel_rfl) (by kernel_rfl) (R2.out.pre hk)) ?_; rw [back_tx (OK.out.take k)]))
  go_ret
  exact ⟨rfl, O2.out⟩
theorem after_any (l : Bs) (k : Nat) (w : World) (hk : k ≤ l.length) (ok : okT l) : Calls Tryd.prog 19 #[.agg #[.string (tx l), .int .i64 k]] w fun e w' => e = .returned (.string (tx (l.drop k))) ∧ Old w w' := by
  have OK := Lib.hid ok
  have hn := ok.n
  clear ok
  have i0 : (k : Int) ≤ l.length := by omega
  have e0 : (((l.length : Int) - k).toNat) = l.length - k := by omega
  go_enter Tryd.func19, Tryd.ntmps19
  go_upto_region 1 with fail
  have c0 : (w.alloc (.cells #[.string (tx l), .int .i64 k] 34)).cell? ⟨w.heap.size, 0, none⟩ = some (.string (tx l)) := (World.cell?_alloc_mark w #[.string (tx l), .int .i64 k] 34 (0, 0) 0).trans rfl
  have c1 : (w.alloc (.cells #[.string (tx l), .int .i64 k] 34)).cell? ⟨w.heap.size, 1, none⟩ = some (.int .i64 k) := (World.cell?_alloc_mark w #[.string (tx l), .int .i64 k] 34 (0, 0) 1).trans rfl
  have OA := Lib.hid (Old.alloc w (.cells #[.string (tx l), .int .i64 k] 34))
  generalize w.alloc (.cells #[.string (tx l), .int .i64 k] 34) = w0 at c0 c1 OA ⊢
  have hlt := World.block_lt_of_cell? w0 _ c0
  go_wp2_with (first
    | (refine wpList_runes rfl 9 42 21 _ (tx l) rfl rfl (by kernel_rfl) (by kernel_rfl) (by kernel_rfl) (by rw [tx_size]; omega) ?_; intro vv w2 o2 r2 hv2 own2; have d1 := (o2.cell (o := 1) hlt).trans c1; have O2 := Lib.hid (OA.out.trans o2); rw [runes_tx OK.out] at hv2 r2; obtain ⟨vb, vc, rfl⟩ := hv2; rw [List.length_map] at r2; rw [List.length_map]; have R2 := Lib.hid r2; obtain ⟨_, _, _, eq, q1, q2, _⟩ := r2; injection eq with eq1 eq2 eq3; subst eq3; rw [List.length_map] at q1; unfold maxLen at q2; have i1 : (k : Int) ≤ vc := (by omega); clear o2 own2 eq1 eq2; rcases Nat.lt_or_ge k vc with hv | hv; rotate_left; have hv2 : k = vc := (by omega); subst hv2; rotate_left)
    | (refine wpList_convert rfl 42 9 _ _ rfl rfl (runes_back w2 42 9 21 _ _ (by kernel_rfl) (by kernel_rfl) (by kernel_rfl) (R2.out.post hk k (vc - k) (fun _ => rfl) (by omega) (by unfold maxLen; omega))) ?_; rw [back_tx (OK.out.drop k)])
    | (refine wpList_convert rfl 42 9 _ _ rfl rfl (runes_back w2 42 9 21 _ _ (by kernel_rfl) (by kernel_rfl) (by kernel_rfl) R2.out.none) ?_; rw [show runesBytes [] = tx (l.drop k) from by rw [List.drop_eq_nil_of_le (by omega)]; rfl]))
  all_goals
    go_ret
    exact ⟨rfl, O2.out⟩

set_option maxHeartbeats 1000000 in
theorem lines9_any (l : Bs) (w : World) (hn : l.length ≤ 1000000) : Calls Tryd.prog 21 #[.string (tx l)] w fun e w' => ∃ v, e = .returned v ∧ Old w w' ∧ w'.ownsRow w.heap.size 9 1 v (splitL l).length (lineVs (splitL l)) := by
  go_enter Tryd.func21, Tryd.ntmps21
  go_wp2_with fail
  go_loopw [0, 3] (fun sv ov wr => ∃ (done : List Bs) (rest : Bs), sv = .string (tx rest) ∧ splitL l = done ++ splitL rest ∧ rest.length + done.length ≤ l.length ∧ wr.ownsRow w.heap.size 9 1 ov done.length (lineVs done) ∧ Old w wr) (fun sv _ _ => szOf sv)
  case atStart => exact ⟨[], l, rfl, rfl, by simp, ⟨rfl, .inl ⟨rfl, rfl⟩⟩, Old.refl _⟩
  case round =>
    obtain ⟨done, rest, rfl, hsp, hlen, hown, hold⟩ := hrel
    have SP := Lib.hid hsp
    have hs : (tx rest).size = rest.length := tx_size rest
    by_cases hf : 0 ≤ fidx nl rest
    · obtain ⟨e1, e2⟩ := fidx_flen hf
      have e3 : (tx rest).extract 0 (flen nl rest) = tx (rest.take (flen nl rest)) := ext_pre
      have e4 : (tx rest).extract (flen nl rest + 1) rest.length = tx (rest.drop (flen nl rest + 1)) := ext_post
      have CUT := Lib.hid (splitL_cut e2)
      have E1 : Hid (fidx (setP [10] false) rest = flen nl rest) := by unfold Hid; rw [nl_set]; exact e1
      have i0 : (0 : Int) ≤ flen nl rest := by omega
      have i1 : (flen nl rest : Int) < rest.length := by omega
      have HF := Lib.hid hf
      have OO0 := Lib.hid hold
      have OW0 := Lib.hid hown
      clear hf e1 hown hold hsp
      generalize flen nl rest = q at *
      have i2 : (0 : Int) ≤ (q : Int) + 1 := by omega
      have i3 : (q : Int) ≤ rest.length := by omega
      have i4 : (q : Int) + 1 ≤ rest.length := by omega
      have f1 : IntKind.i64.wrap ((q : Int) + 1) = (q : Int) + 1 := IntWalk.i64_in _ (by omega)
      have f2 : ((q : Int) + 1).toNat = q + 1 := by omega
      go_upto_region 5 with (go_at_call 35; refine (first_any rest [10] false _ (by omega) (by decide)).mono ?_; rw [E1.out]; rintro e w1 ⟨rfl, rfl⟩)
      have OO := Lib.hid (OO0.out.then_drew)
      have OW := Lib.hid (OW0.out.drew)
      clear OO0 OW0
      refine wp_region_noPanic ?_
      refine wp_region_any (by kernel_rfl) ?_
      refine wpAny_take (i := 0) (v := ?_) rfl (by kernel_rfl) (by kernel_rfl) (by kernel_rfl) (fun _ _ _ h => h) (Or.inl ⟨by rfl, ?_⟩) ?_
      rotate_left
      · (intro w; go_simp; try with_reducible rfl)
      try simp only [Act.put, List.getElem_toArray, List.getElem_cons_succ, List.getElem_cons_zero, List.setIfInBounds_toArray, List.set_cons_zero, List.set_cons_succ]
      refine wpAny_take (i := 1) (v := ?_) rfl (by kernel_rfl) (by kernel_rfl) (by kernel_rfl) (fun _ _ _ h => h) (Or.inl ⟨by rfl, ?_⟩) ?_
      rotate_left
      · (intro w; go_simp; try with_reducible rfl)
      try simp only [Act.put, List.getElem_toArray, List.getElem_cons_succ, List.getElem_cons_zero, List.setIfInBounds_toArray, List.set_cons_zero, List.set_cons_succ]
      refine wpAny_take (i := 2) (v := ?_) rfl (by kernel_rfl) (by kernel_rfl) (by kernel_rfl) (fun _ _ _ h => h) (Or.inl ⟨by rfl, ?_⟩) ?_
      rotate_left
      · (intro w; go_simp; try with_reducible rfl)
      try simp only [Act.put, List.getElem_toArray, List.getElem_cons_succ, List.getElem_cons_zero, List.setIfInBounds_toArray, List.set_cons_zero, List.set_cons_succ]
      refine wpAny_take (i := 3) (v := ?_) rfl (by kernel_rfl) (by kernel_rfl) (by kernel_rfl) (fun _ _ _ h => h) (Or.inl ⟨by rfl, ?_⟩) ?_
      rotate_left
      · (intro w; go_simp; try with_reducible rfl)
      try simp only [Act.put, List.getElem_toArray, List.getElem_cons_succ, List.getElem_cons_zero, List.setIfInBounds_toArray, List.set_cons_zero, List.set_cons_succ]
      refine wpAny_take (i := 6) (v := ?_) rfl (by kernel_rfl) (by kernel_rfl) (by kernel_rfl) (fun _ _ _ h => h) (Or.inl ⟨by rfl, ?_⟩) ?_
      rotate_left
      · (intro w; go_simp; try with_reducible rfl)
      try simp only [Act.put, List.getElem_toArray, List.getElem_cons_succ, List.getElem_cons_zero, List.setIfInBounds_toArray, List.set_cons_zero, List.set_cons_succ]
      refine wpAny_take (i := 7) (v := ?_) rfl (by kernel_rfl) (by kernel_rfl) (by kernel_rfl) (fun _ _ _ h => h) (Or.inl ⟨by rfl, ?_⟩) ?_
      rotate_left
      · (intro w; go_simp; try with_reducible rfl)
      try simp only [Act.put, List.getElem_toArray, List.getElem_cons_succ, List.getElem_cons_zero, List.setIfInBounds_toArray, List.set_cons_zero, List.set_cons_succ]
      refine wpAny_take (i := 8) (v := ?_) rfl (by kernel_rfl) (by kernel_rfl) (by kernel_rfl) (fun _ _ _ h => h) (Or.inl ⟨by rfl, ?_⟩) ?_
      rotate_left
      · (intro w; go_simp; try with_reducible rfl)
      try simp only [Act.put, List.getElem_toArray, List.getElem_cons_succ, List.getElem_cons_zero, List.setIfInBounds_toArray, List.set_cons_zero, List.set_cons_succ]
      refine wpAny_take (i := 9) (v := ?_) rfl (by kernel_rfl) (by kernel_rfl) (by kernel_rfl) (fun _ _ _ h => h) (Or.inl ⟨by rfl, ?_⟩) ?_
      rotate_left
      · (intro w; go_simp; try with_reducible rfl)
      try simp only [Act.put, List.getElem_toArray, List.getElem_cons_succ, List.getElem_cons_zero, List.setIfInBounds_toArray, List.set_cons_zero, List.set_cons_succ]
      refine wpAny_one (i := 4) (by kernel_rfl) rfl (fun K hK => ?_)
      go_simp
      refine hK.out _ _ ?_
      clear hK K
      try simp only [Act.put, List.getElem_toArray, List.getElem_cons_succ, List.getElem_cons_zero, List.setIfInBounds_toArray, List.set_cons_zero, List.set_cons_succ]
      refine wpAny_one (i := 5) (by kernel_rfl) rfl (fun K hK => ?_)
      (refine step_append1_at (by rfl) (.tmp 13) (.tmp 17) 36 9 9 (.string ByteArray.empty) _ 16 rfl Tryd.underlying36 info_str rfl w.heap.size _ done.length _ rfl OW.out rfl rfl (by omega) (by omega) OO.out.size ?_; intro v' w5 hown1 hg1 hv1; obtain ⟨tb', tc', rfl, hat⟩ := hv1; have OW2 := Lib.hid hown1; have O2 := Lib.hid (OO.out.own (Nat.le_refl _) OW.out hg1); clear hown1 hg1 hat)
      refine hK.out _ _ ?_
      clear hK K
      try simp only [Act.put, List.getElem_toArray, List.getElem_cons_succ, List.getElem_cons_zero, List.setIfInBounds_toArray, List.set_cons_zero, List.set_cons_succ]
      refine wpAny_one (i := 10) (by kernel_rfl) rfl (fun K hK => ?_)
      go_simp
      refine hK.out _ _ ?_
      clear hK K
      try simp only [Act.put, List.getElem_toArray, List.getElem_cons_succ, List.getElem_cons_zero, List.setIfInBounds_toArray, List.set_cons_zero, List.set_cons_succ]
      refine wpAny_one (i := 11) (by kernel_rfl) rfl (fun K hK => ?_)
      go_simp
      refine hK.out _ _ ?_
      clear hK K
      try simp only [Act.put, List.getElem_toArray, List.getElem_cons_succ, List.getElem_cons_zero, List.setIfInBounds_toArray, List.set_cons_zero, List.set_cons_succ]
      refine wpAny_end (by kernel_rfl) ?_ _
      refine NoPanic.normal ?_
      clear f1 f2
      go_wp2_with fail
      go_roundw
      case rel =>
        refine ⟨done ++ [rest.take q], rest.drop (q + 1), rfl, ?_, by simp; omega, ?_, O2.out⟩
        · rw [SP.out, CUT.out]; simp
        · rw [lineVs_snoc, List.length_append]; exact OW2.out
      case measure => simp [szOf, tx_size]; omega
    · obtain ⟨e1, e2⟩ := fidx_neg (p := nl) (l := rest) (by omega)
      have E1 : Hid (fidx (setP [10] false) rest = -1) := by unfold Hid; rw [nl_set]; exact e1
      have CUT := Lib.hid (splitL_none e2)
      have OO := Lib.hid hold
      have OW := Lib.hid hown
      clear hown hold hsp
      go_wp2_with (first
        | (go_at_call 35; refine (first_any rest [10] false _ (by omega) (by decide)).mono ?_; rw [E1.out]; rintro e w1 ⟨rfl, rfl⟩)
        | (at_builtin; refine wpList_append1 rfl _ _ 36 9 9 (.string ByteArray.empty) _ 16 rfl Tryd.underlying36 info_str rfl w.heap.size _ done.length _ rfl OW.out rfl rfl (by omega) (by omega) OO.out.size ?_; intro v' w5 hown1 hg1 hv1; obtain ⟨tb', tc', rfl⟩ := hv1; have OW2 := Lib.hid hown1; have O2 := Lib.hid (OO.out.own (Nat.le_refl _) OW.out hg1); clear hown1 hg1))
      go_ret
      refine ⟨_, rfl, O2.out, ?_⟩
      rw [SP.out, CUT.out, lineVs_snoc, List.length_append]
      exact OW2.out

theorem doc_cells (l : Bs) (k : Nat) (w : World) : ∀ w0, w0 = w.alloc (.cells #[.string (tx l), .int .i64 k] 34) → w0.cell? ⟨w.heap.size, 0, none⟩ = some (.string (tx l)) ∧ w0.cell? ⟨w.heap.size, 1, none⟩ = some (.int .i64 k) ∧ Old w w0 := by
  rintro w0 rfl
  exact ⟨(World.cell?_alloc_mark w #[.string (tx l), .int .i64 k] 34 (0, 0) 0).trans rfl, (World.cell?_alloc_mark w #[.string (tx l), .int .i64 k] 34 (0, 0) 1).trans rfl, Old.alloc w _⟩
theorem la_any (l : Bs) (k : Nat) (w : World) (hk : k ≤ l.length) (ok : okT l) : Calls Tryd.prog 22 #[.agg #[.string (tx l), .int .i64 k]] w fun e w' => e = .returned (.string (tx (lineA l k))) ∧ Old w w' := by
  have OK := Lib.hid ok
  have hn := (ok.drop k).n
  clear ok
  obtain ⟨m, hm⟩ : ∃ m, m = l.drop k := ⟨_, rfl⟩
  have hb := fidx_lt nl m
  have hs : (tx m).size = m.length := tx_size m
  have R : Hid (lineA l k = m.take (flen nl m)) := by unfold Hid lineA; rw [← hm]
  have BA := fun w' => after_any l k w' hk OK.out
  rw [← hm] at hn BA
  have BB := Lib.hid BA
  clear hm BA
  by_cases h0 : 0 ≤ fidx nl m
  · obtain ⟨e1, e2⟩ := fidx_flen h0
    have E1 : Hid (fidx (setP [10] false) m = flen nl m) := by unfold Hid; rw [nl_set]; exact e1
    have e3 : (tx m).extract 0 (flen nl m) = tx (m.take (flen nl m)) := ext_pre
    clear e1 hb h0
    generalize flen nl m = q at *
    have i0 : (0 : Int) ≤ q := by omega
    have i1 : (q : Int) ≤ m.length := by omega
    go_enter Tryd.func22, Tryd.ntmps22
    go_wp2_with (first
      | (go_at_call 19; refine (BB.out _).mono ?_; rintro e w2 ⟨rfl, o2⟩; have O2 := Lib.hid ((Old.alloc w _).trans o2); clear o2)
      | (go_at_call 35; refine (first_any m [10] false _ hn (by decide)).mono ?_; rw [E1.out]; rintro e w2 ⟨rfl, rfl⟩))
    go_ret
    exact ⟨ret_str (by rw [R.out]), O2.out⟩
  · obtain ⟨e1, e2⟩ := fidx_neg (p := nl) (l := m) (by omega)
    have E1 : Hid (fidx (setP [10] false) m = -1) := by unfold Hid; rw [nl_set]; exact e1
    have R2 : Hid (lineA l k = m) := by unfold Hid; rw [R.out, e2, List.take_length]
    clear e1 e2 hb h0
    go_enter Tryd.func22, Tryd.ntmps22
    go_wp2_with (first
      | (go_at_call 19; refine (BB.out _).mono ?_; rintro e w2 ⟨rfl, o2⟩; have O2 := Lib.hid ((Old.alloc w _).trans o2); clear o2)
      | (go_at_call 35; refine (first_any m [10] false _ hn (by decide)).mono ?_; rw [E1.out]; rintro e w2 ⟨rfl, rfl⟩))
    go_ret
    exact ⟨ret_str (by rw [R2.out]), O2.out⟩
end Go.Proofs.YtleamondilmojaaDoor
