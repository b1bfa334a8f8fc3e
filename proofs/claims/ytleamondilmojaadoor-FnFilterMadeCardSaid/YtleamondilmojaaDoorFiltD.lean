/- impl.Filtered of one pick that passes. (Printed by mkfiltd.py.) -/
import Derived.Test.YtleamondilmojaaDoorFiltT
namespace Go.Proofs.YtleamondilmojaaDoor
open Go.RowKit
set_option linter.unusedVariables false
set_option linter.unusedSimpArgs false
set_option linter.unnecessarySimpa false
set_option maxRecDepth 100000

theorem info_pick : (Tryd.prog.info? 30).map (fun i => (i.zero, i.size, i.bytes)) = some (some (.agg #[.string ByteArray.empty, .string ByteArray.empty]), 2, 32) := by kernel_rfl
set_option maxHeartbeats 2000000 in
theorem fd1_any (v : Value) (s p : Bs) (d : ByteArray) (ic : Bool) (w : World) (h : Two w v s d) (oks : okT s) (okp : okT p) (hl : s.length ≤ 100000) (hm : Made 1 s p) :
    Calls Tryd.prog 14 #[.int .i64 1, v, .string (tx p), .bool ic] w fun e w' => ∃ v', e = .returned v' ∧ Old w w' ∧ Two w' v' s d := by
  have H := fun v' w' h' => flt1_any v' s p d ic w' h' oks okp hl hm
  have HH := Lib.hid H
  obtain ⟨b, c, rfl, h1, h2, h3, h4, h5⟩ := h
  have HB := Lib.hid h3
  have HC := Lib.hid (And.intro h4 h5)
  clear H oks okp hm hl h3 h4 h5
  generalize tx p = t at HH ⊢
  go_enter Tryd.func14, Tryd.ntmps14
  go_wp2_with fail
  go_loopw [9, 18] (fun ret i wr => (i = .int .i64 0 ∧ ret = .slice none 0 0 ∧ wr = w) ∨ (i = .int .i64 1 ∧ Old w wr ∧ Two wr ret s d)) (fun _ i _ => 1 - (intOf i).toNat)
  case atStart => exact .inl ⟨rfl, rfl, rfl⟩
  case round =>
    rcases hrel with ⟨rfl, rfl, rfl⟩ | ⟨rfl, ho, ht⟩
    · have c0 := HC.out.1
      have c1 := HC.out.2
      go_upto_region 5 with fail
      have oa : Old wr (wr.alloc (.cells #[.string (tx s), .string d] 30)) := Old.alloc _ _
      have na := heap_alloc_new wr (.cells #[.string (tx s), .string d] 30)
      have x0 := (bcell4 na 0).trans rfl
      have x1 := (bcell4 na 1).trans rfl
      have OA := Lib.hid oa
      generalize wr.alloc (.cells #[.string (tx s), .string d] 30) = wa at x0 x1 OA ⊢
      clear na oa
      generalize wr.heap.size = g at x0 x1 ⊢
      go_wp2_with (at_builtin; refine wpList_append_new rfl _ _ 54 55 _ (.agg #[.string ByteArray.empty, .string ByteArray.empty]) 2 32 rfl Tryd.underlying54 info_sug rfl (by decide) wa.heap.size (.slice none 0 0) 0 [] rfl ⟨rfl, .inl ⟨rfl, rfl⟩⟩ 1 #[.string (tx s), .string d] rfl (by decide) rfl (by intro y hy; simp at hy; rcases hy with rfl | rfl <;> rfl) (by omega) (by omega) (Nat.le_refl _) ?_; intro v' w5 hown1 hg1 hv1; obtain ⟨tb', tc', rfl, hat⟩ := hv1; have OW5 := Lib.hid hown1; have O5 := Lib.hid (OA.out.trans ((Old.refl wa).grown hg1 (fun k hk => by simp [Value.ownBlock] at hk))); clear hown1 hg1 hat)
      exact ⟨.inr ⟨rfl, O5.out, Two.of_own OW5.out⟩, by simp [intOf]⟩
    · obtain ⟨q, cq, rfl, j1, j2, j3, j4, j5⟩ := ht
      have TT := Lib.hid (⟨q, cq, rfl, j1, j2, j3, j4, j5⟩ : Two wr (.slice (some ⟨q, 0, none⟩) 1 cq) s d)
      have OO := Lib.hid ho
      clear j3 j4 j5 ho
      go_wp2_with (go_at_call 28; refine (HH.out _ _ TT.out).mono ?_; rintro e w1 ⟨v1, rfl, o1, t1⟩; have O1 := Lib.hid (OO.out.trans o1); clear o1; obtain ⟨b1, cc1, rfl, m1, m2, m3, m4, m5⟩ := t1; have HB1 := Lib.hid m3; have HC1 := Lib.hid (And.intro m4 m5); clear m3 m4 m5)
      go_loopw [13, 58] (fun ret i wz => (i = .int .i64 0 ∧ ret = .slice none 0 0 ∧ wz = w1) ∨ (i = .int .i64 1 ∧ Old w wz ∧ Two wz ret s d)) (fun _ i _ => 1 - (intOf i).toNat)
      case atStart => exact .inl ⟨rfl, rfl, rfl⟩
      case round =>
        rcases hrel with ⟨rfl, rfl, rfl⟩ | ⟨rfl, hoz, htz⟩
        · have c0 := HC1.out.1
          have c1 := HC1.out.2
          go_upto_region 21 with fail
          have oa : Old wr (wr.alloc (.cells #[.string (tx s), .string d] 55)) := Old.alloc _ _
          have na := heap_alloc_new wr (.cells #[.string (tx s), .string d] 55)
          have x0 := (bcell4 na 0).trans rfl
          have x1 := (bcell4 na 1).trans rfl
          have OA := Lib.hid oa
          generalize wr.alloc (.cells #[.string (tx s), .string d] 55) = wa at x0 x1 OA ⊢
          clear na oa
          generalize wr.heap.size = g at x0 x1 ⊢
          go_wp2_with (at_builtin; refine wpList_append_new rfl _ _ 27 30 _ (.agg #[.string ByteArray.empty, .string ByteArray.empty]) 2 32 rfl Tryd.underlying27 info_pick rfl (by decide) wa.heap.size (.slice none 0 0) 0 [] rfl ⟨rfl, .inl ⟨rfl, rfl⟩⟩ 1 #[.string (tx s), .string d] rfl (by decide) rfl (by intro y hy; simp at hy; rcases hy with rfl | rfl <;> rfl) (by omega) (by omega) (Nat.le_refl _) ?_; intro v' w5 hown1 hg1 hv1; obtain ⟨tb', tc', rfl, hat⟩ := hv1; have OW5 := Lib.hid hown1; have O5 := Lib.hid ((O1.out.trans OA.out).trans ((Old.refl wa).grown hg1 (fun k hk => by simp [Value.ownBlock] at hk))); clear hown1 hg1 hat)
          exact ⟨.inr ⟨rfl, O5.out, Two.of_own OW5.out⟩, by simp [intOf]⟩
        · obtain ⟨q2, cq2, rfl, r1, r2, r3, r4, r5⟩ := htz
          have TZ := Lib.hid (⟨q2, cq2, rfl, r1, r2, r3, r4, r5⟩ : Two wr (.slice (some ⟨q2, 0, none⟩) 1 cq2) s d)
          have OZ := Lib.hid hoz
          clear r3 r4 r5 hoz
          go_wp2_with fail
          go_ret
          exact ⟨_, rfl, OZ.out, TZ.out⟩
set_option maxHeartbeats 2000000 in
theorem fd2_any (v : Value) (s p : Bs) (d : ByteArray) (ic : Bool) (w : World) (h : Two w v s d) (oks : okT s) (okp : okT p) (hl : s.length ≤ 100000) (hm : Made 2 s p) :
    Calls Tryd.prog 14 #[.int .i64 2, v, .string (tx p), .bool ic] w fun e w' => ∃ v', e = .returned v' ∧ Old w w' ∧ Two w' v' s d := by
  have H := fun v' w' h' => flt2_any v' s p d ic w' h' oks okp hl hm
  have HH := Lib.hid H
  obtain ⟨b, c, rfl, h1, h2, h3, h4, h5⟩ := h
  have HB := Lib.hid h3
  have HC := Lib.hid (And.intro h4 h5)
  clear H oks okp hm hl h3 h4 h5
  generalize tx p = t at HH ⊢
  go_enter Tryd.func14, Tryd.ntmps14
  go_wp2_with fail
  go_loopw [9, 18] (fun ret i wr => (i = .int .i64 0 ∧ ret = .slice none 0 0 ∧ wr = w) ∨ (i = .int .i64 1 ∧ Old w wr ∧ Two wr ret s d)) (fun _ i _ => 1 - (intOf i).toNat)
  case atStart => exact .inl ⟨rfl, rfl, rfl⟩
  case round =>
    rcases hrel with ⟨rfl, rfl, rfl⟩ | ⟨rfl, ho, ht⟩
    · have c0 := HC.out.1
      have c1 := HC.out.2
      go_upto_region 5 with fail
      have oa : Old wr (wr.alloc (.cells #[.string (tx s), .string d] 30)) := Old.alloc _ _
      have na := heap_alloc_new wr (.cells #[.string (tx s), .string d] 30)
      have x0 := (bcell4 na 0).trans rfl
      have x1 := (bcell4 na 1).trans rfl
      have OA := Lib.hid oa
      generalize wr.alloc (.cells #[.string (tx s), .string d] 30) = wa at x0 x1 OA ⊢
      clear na oa
      generalize wr.heap.size = g at x0 x1 ⊢
      go_wp2_with (at_builtin; refine wpList_append_new rfl _ _ 54 55 _ (.agg #[.string ByteArray.empty, .string ByteArray.empty]) 2 32 rfl Tryd.underlying54 info_sug rfl (by decide) wa.heap.size (.slice none 0 0) 0 [] rfl ⟨rfl, .inl ⟨rfl, rfl⟩⟩ 1 #[.string (tx s), .string d] rfl (by decide) rfl (by intro y hy; simp at hy; rcases hy with rfl | rfl <;> rfl) (by omega) (by omega) (Nat.le_refl _) ?_; intro v' w5 hown1 hg1 hv1; obtain ⟨tb', tc', rfl, hat⟩ := hv1; have OW5 := Lib.hid hown1; have O5 := Lib.hid (OA.out.trans ((Old.refl wa).grown hg1 (fun k hk => by simp [Value.ownBlock] at hk))); clear hown1 hg1 hat)
      exact ⟨.inr ⟨rfl, O5.out, Two.of_own OW5.out⟩, by simp [intOf]⟩
    · obtain ⟨q, cq, rfl, j1, j2, j3, j4, j5⟩ := ht
      have TT := Lib.hid (⟨q, cq, rfl, j1, j2, j3, j4, j5⟩ : Two wr (.slice (some ⟨q, 0, none⟩) 1 cq) s d)
      have OO := Lib.hid ho
      clear j3 j4 j5 ho
      go_wp2_with (go_at_call 29; refine (HH.out _ _ TT.out).mono ?_; rintro e w1 ⟨v1, rfl, o1, t1⟩; have O1 := Lib.hid (OO.out.trans o1); clear o1; obtain ⟨b1, cc1, rfl, m1, m2, m3, m4, m5⟩ := t1; have HB1 := Lib.hid m3; have HC1 := Lib.hid (And.intro m4 m5); clear m3 m4 m5)
      go_loopw [13, 58] (fun ret i wz => (i = .int .i64 0 ∧ ret = .slice none 0 0 ∧ wz = w1) ∨ (i = .int .i64 1 ∧ Old w wz ∧ Two wz ret s d)) (fun _ i _ => 1 - (intOf i).toNat)
      case atStart => exact .inl ⟨rfl, rfl, rfl⟩
      case round =>
        rcases hrel with ⟨rfl, rfl, rfl⟩ | ⟨rfl, hoz, htz⟩
        · have c0 := HC1.out.1
          have c1 := HC1.out.2
          go_upto_region 21 with fail
          have oa : Old wr (wr.alloc (.cells #[.string (tx s), .string d] 55)) := Old.alloc _ _
          have na := heap_alloc_new wr (.cells #[.string (tx s), .string d] 55)
          have x0 := (bcell4 na 0).trans rfl
          have x1 := (bcell4 na 1).trans rfl
          have OA := Lib.hid oa
          generalize wr.alloc (.cells #[.string (tx s), .string d] 55) = wa at x0 x1 OA ⊢
          clear na oa
          generalize wr.heap.size = g at x0 x1 ⊢
          go_wp2_with (at_builtin; refine wpList_append_new rfl _ _ 27 30 _ (.agg #[.string ByteArray.empty, .string ByteArray.empty]) 2 32 rfl Tryd.underlying27 info_pick rfl (by decide) wa.heap.size (.slice none 0 0) 0 [] rfl ⟨rfl, .inl ⟨rfl, rfl⟩⟩ 1 #[.string (tx s), .string d] rfl (by decide) rfl (by intro y hy; simp at hy; rcases hy with rfl | rfl <;> rfl) (by omega) (by omega) (Nat.le_refl _) ?_; intro v' w5 hown1 hg1 hv1; obtain ⟨tb', tc', rfl, hat⟩ := hv1; have OW5 := Lib.hid hown1; have O5 := Lib.hid ((O1.out.trans OA.out).trans ((Old.refl wa).grown hg1 (fun k hk => by simp [Value.ownBlock] at hk))); clear hown1 hg1 hat)
          exact ⟨.inr ⟨rfl, O5.out, Two.of_own OW5.out⟩, by simp [intOf]⟩
        · obtain ⟨q2, cq2, rfl, r1, r2, r3, r4, r5⟩ := htz
          have TZ := Lib.hid (⟨q2, cq2, rfl, r1, r2, r3, r4, r5⟩ : Two wr (.slice (some ⟨q2, 0, none⟩) 1 cq2) s d)
          have OZ := Lib.hid hoz
          clear r3 r4 r5 hoz
          go_wp2_with fail
          go_ret
          exact ⟨_, rfl, OZ.out, TZ.out⟩
set_option maxHeartbeats 2000000 in
theorem fd3_any (v : Value) (s p : Bs) (d : ByteArray) (ic : Bool) (w : World) (h : Two w v s d) (oks : okT s) (okp : okT p) (hl : s.length ≤ 100000) (hm : Made 3 s p) :
    Calls Tryd.prog 14 #[.int .i64 3, v, .string (tx p), .bool ic] w fun e w' => ∃ v', e = .returned v' ∧ Old w w' ∧ Two w' v' s d := by
  have H := fun v' w' h' => flt3_any v' s p d ic w' h' oks okp hl hm
  have HH := Lib.hid H
  obtain ⟨b, c, rfl, h1, h2, h3, h4, h5⟩ := h
  have HB := Lib.hid h3
  have HC := Lib.hid (And.intro h4 h5)
  clear H oks okp hm hl h3 h4 h5
  generalize tx p = t at HH ⊢
  go_enter Tryd.func14, Tryd.ntmps14
  go_wp2_with fail
  go_loopw [9, 18] (fun ret i wr => (i = .int .i64 0 ∧ ret = .slice none 0 0 ∧ wr = w) ∨ (i = .int .i64 1 ∧ Old w wr ∧ Two wr ret s d)) (fun _ i _ => 1 - (intOf i).toNat)
  case atStart => exact .inl ⟨rfl, rfl, rfl⟩
  case round =>
    rcases hrel with ⟨rfl, rfl, rfl⟩ | ⟨rfl, ho, ht⟩
    · have c0 := HC.out.1
      have c1 := HC.out.2
      go_upto_region 5 with fail
      have oa : Old wr (wr.alloc (.cells #[.string (tx s), .string d] 30)) := Old.alloc _ _
      have na := heap_alloc_new wr (.cells #[.string (tx s), .string d] 30)
      have x0 := (bcell4 na 0).trans rfl
      have x1 := (bcell4 na 1).trans rfl
      have OA := Lib.hid oa
      generalize wr.alloc (.cells #[.string (tx s), .string d] 30) = wa at x0 x1 OA ⊢
      clear na oa
      generalize wr.heap.size = g at x0 x1 ⊢
      go_wp2_with (at_builtin; refine wpList_append_new rfl _ _ 54 55 _ (.agg #[.string ByteArray.empty, .string ByteArray.empty]) 2 32 rfl Tryd.underlying54 info_sug rfl (by decide) wa.heap.size (.slice none 0 0) 0 [] rfl ⟨rfl, .inl ⟨rfl, rfl⟩⟩ 1 #[.string (tx s), .string d] rfl (by decide) rfl (by intro y hy; simp at hy; rcases hy with rfl | rfl <;> rfl) (by omega) (by omega) (Nat.le_refl _) ?_; intro v' w5 hown1 hg1 hv1; obtain ⟨tb', tc', rfl, hat⟩ := hv1; have OW5 := Lib.hid hown1; have O5 := Lib.hid (OA.out.trans ((Old.refl wa).grown hg1 (fun k hk => by simp [Value.ownBlock] at hk))); clear hown1 hg1 hat)
      exact ⟨.inr ⟨rfl, O5.out, Two.of_own OW5.out⟩, by simp [intOf]⟩
    · obtain ⟨q, cq, rfl, j1, j2, j3, j4, j5⟩ := ht
      have TT := Lib.hid (⟨q, cq, rfl, j1, j2, j3, j4, j5⟩ : Two wr (.slice (some ⟨q, 0, none⟩) 1 cq) s d)
      have OO := Lib.hid ho
      clear j3 j4 j5 ho
      go_wp2_with (go_at_call 30; refine (HH.out _ _ TT.out).mono ?_; rintro e w1 ⟨v1, rfl, o1, t1⟩; have O1 := Lib.hid (OO.out.trans o1); clear o1; obtain ⟨b1, cc1, rfl, m1, m2, m3, m4, m5⟩ := t1; have HB1 := Lib.hid m3; have HC1 := Lib.hid (And.intro m4 m5); clear m3 m4 m5)
      go_loopw [13, 58] (fun ret i wz => (i = .int .i64 0 ∧ ret = .slice none 0 0 ∧ wz = w1) ∨ (i = .int .i64 1 ∧ Old w wz ∧ Two wz ret s d)) (fun _ i _ => 1 - (intOf i).toNat)
      case atStart => exact .inl ⟨rfl, rfl, rfl⟩
      case round =>
        rcases hrel with ⟨rfl, rfl, rfl⟩ | ⟨rfl, hoz, htz⟩
        · have c0 := HC1.out.1
          have c1 := HC1.out.2
          go_upto_region 21 with fail
          have oa : Old wr (wr.alloc (.cells #[.string (tx s), .string d] 55)) := Old.alloc _ _
          have na := heap_alloc_new wr (.cells #[.string (tx s), .string d] 55)
          have x0 := (bcell4 na 0).trans rfl
          have x1 := (bcell4 na 1).trans rfl
          have OA := Lib.hid oa
          generalize wr.alloc (.cells #[.string (tx s), .string d] 55) = wa at x0 x1 OA ⊢
          clear na oa
          generalize wr.heap.size = g at x0 x1 ⊢
          go_wp2_with (at_builtin; refine wpList_append_new rfl _ _ 27 30 _ (.agg #[.string ByteArray.empty, .string ByteArray.empty]) 2 32 rfl Tryd.underlying27 info_pick rfl (by decide) wa.heap.size (.slice none 0 0) 0 [] rfl ⟨rfl, .inl ⟨rfl, rfl⟩⟩ 1 #[.string (tx s), .string d] rfl (by decide) rfl (by intro y hy; simp at hy; rcases hy with rfl | rfl <;> rfl) (by omega) (by omega) (Nat.le_refl _) ?_; intro v' w5 hown1 hg1 hv1; obtain ⟨tb', tc', rfl, hat⟩ := hv1; have OW5 := Lib.hid hown1; have O5 := Lib.hid ((O1.out.trans OA.out).trans ((Old.refl wa).grown hg1 (fun k hk => by simp [Value.ownBlock] at hk))); clear hown1 hg1 hat)
          exact ⟨.inr ⟨rfl, O5.out, Two.of_own OW5.out⟩, by simp [intOf]⟩
        · obtain ⟨q2, cq2, rfl, r1, r2, r3, r4, r5⟩ := htz
          have TZ := Lib.hid (⟨q2, cq2, rfl, r1, r2, r3, r4, r5⟩ : Two wr (.slice (some ⟨q2, 0, none⟩) 1 cq2) s d)
          have OZ := Lib.hid hoz
          clear r3 r4 r5 hoz
          go_wp2_with fail
          go_ret
          exact ⟨_, rfl, OZ.out, TZ.out⟩
set_option maxHeartbeats 2000000 in
theorem fd4_any (v : Value) (s p : Bs) (d : ByteArray) (ic : Bool) (w : World) (h : Two w v s d) (oks : okT s) (okp : okT p) (hl : s.length ≤ 100000) (hm : Made 4 s p) :
    Calls Tryd.prog 14 #[.int .i64 4, v, .string (tx p), .bool ic] w fun e w' => ∃ v', e = .returned v' ∧ Old w w' ∧ Two w' v' s d := by
  have H := fun v' w' h' => flt4_any v' s p d ic w' h' oks okp hl hm
  have HH := Lib.hid H
  obtain ⟨b, c, rfl, h1, h2, h3, h4, h5⟩ := h
  have HB := Lib.hid h3
  have HC := Lib.hid (And.intro h4 h5)
  clear H oks okp hm hl h3 h4 h5
  generalize tx p = t at HH ⊢
  go_enter Tryd.func14, Tryd.ntmps14
  go_wp2_with fail
  go_loopw [9, 18] (fun ret i wr => (i = .int .i64 0 ∧ ret = .slice none 0 0 ∧ wr = w) ∨ (i = .int .i64 1 ∧ Old w wr ∧ Two wr ret s d)) (fun _ i _ => 1 - (intOf i).toNat)
  case atStart => exact .inl ⟨rfl, rfl, rfl⟩
  case round =>
    rcases hrel with ⟨rfl, rfl, rfl⟩ | ⟨rfl, ho, ht⟩
    · have c0 := HC.out.1
      have c1 := HC.out.2
      go_upto_region 5 with fail
      have oa : Old wr (wr.alloc (.cells #[.string (tx s), .string d] 30)) := Old.alloc _ _
      have na := heap_alloc_new wr (.cells #[.string (tx s), .string d] 30)
      have x0 := (bcell4 na 0).trans rfl
      have x1 := (bcell4 na 1).trans rfl
      have OA := Lib.hid oa
      generalize wr.alloc (.cells #[.string (tx s), .string d] 30) = wa at x0 x1 OA ⊢
      clear na oa
      generalize wr.heap.size = g at x0 x1 ⊢
      go_wp2_with (at_builtin; refine wpList_append_new rfl _ _ 54 55 _ (.agg #[.string ByteArray.empty, .string ByteArray.empty]) 2 32 rfl Tryd.underlying54 info_sug rfl (by decide) wa.heap.size (.slice none 0 0) 0 [] rfl ⟨rfl, .inl ⟨rfl, rfl⟩⟩ 1 #[.string (tx s), .string d] rfl (by decide) rfl (by intro y hy; simp at hy; rcases hy with rfl | rfl <;> rfl) (by omega) (by omega) (Nat.le_refl _) ?_; intro v' w5 hown1 hg1 hv1; obtain ⟨tb', tc', rfl, hat⟩ := hv1; have OW5 := Lib.hid hown1; have O5 := Lib.hid (OA.out.trans ((Old.refl wa).grown hg1 (fun k hk => by simp [Value.ownBlock] at hk))); clear hown1 hg1 hat)
      exact ⟨.inr ⟨rfl, O5.out, Two.of_own OW5.out⟩, by simp [intOf]⟩
    · obtain ⟨q, cq, rfl, j1, j2, j3, j4, j5⟩ := ht
      have TT := Lib.hid (⟨q, cq, rfl, j1, j2, j3, j4, j5⟩ : Two wr (.slice (some ⟨q, 0, none⟩) 1 cq) s d)
      have OO := Lib.hid ho
      clear j3 j4 j5 ho
      go_wp2_with (go_at_call 31; refine (HH.out _ _ TT.out).mono ?_; rintro e w1 ⟨v1, rfl, o1, t1⟩; have O1 := Lib.hid (OO.out.trans o1); clear o1; obtain ⟨b1, cc1, rfl, m1, m2, m3, m4, m5⟩ := t1; have HB1 := Lib.hid m3; have HC1 := Lib.hid (And.intro m4 m5); clear m3 m4 m5)
      go_loopw [13, 58] (fun ret i wz => (i = .int .i64 0 ∧ ret = .slice none 0 0 ∧ wz = w1) ∨ (i = .int .i64 1 ∧ Old w wz ∧ Two wz ret s d)) (fun _ i _ => 1 - (intOf i).toNat)
      case atStart => exact .inl ⟨rfl, rfl, rfl⟩
      case round =>
        rcases hrel with ⟨rfl, rfl, rfl⟩ | ⟨rfl, hoz, htz⟩
        · have c0 := HC1.out.1
          have c1 := HC1.out.2
          go_upto_region 21 with fail
          have oa : Old wr (wr.alloc (.cells #[.string (tx s), .string d] 55)) := Old.alloc _ _
          have na := heap_alloc_new wr (.cells #[.string (tx s), .string d] 55)
          have x0 := (bcell4 na 0).trans rfl
          have x1 := (bcell4 na 1).trans rfl
          have OA := Lib.hid oa
          generalize wr.alloc (.cells #[.string (tx s), .string d] 55) = wa at x0 x1 OA ⊢
          clear na oa
          generalize wr.heap.size = g at x0 x1 ⊢
          go_wp2_with (at_builtin; refine wpList_append_new rfl _ _ 27 30 _ (.agg #[.string ByteArray.empty, .string ByteArray.empty]) 2 32 rfl Tryd.underlying27 info_pick rfl (by decide) wa.heap.size (.slice none 0 0) 0 [] rfl ⟨rfl, .inl ⟨rfl, rfl⟩⟩ 1 #[.string (tx s), .string d] rfl (by decide) rfl (by intro y hy; simp at hy; rcases hy with rfl | rfl <;> rfl) (by omega) (by omega) (Nat.le_refl _) ?_; intro v' w5 hown1 hg1 hv1; obtain ⟨tb', tc', rfl, hat⟩ := hv1; have OW5 := Lib.hid hown1; have O5 := Lib.hid ((O1.out.trans OA.out).trans ((Old.refl wa).grown hg1 (fun k hk => by simp [Value.ownBlock] at hk))); clear hown1 hg1 hat)
          exact ⟨.inr ⟨rfl, O5.out, Two.of_own OW5.out⟩, by simp [intOf]⟩
        · obtain ⟨q2, cq2, rfl, r1, r2, r3, r4, r5⟩ := htz
          have TZ := Lib.hid (⟨q2, cq2, rfl, r1, r2, r3, r4, r5⟩ : Two wr (.slice (some ⟨q2, 0, none⟩) 1 cq2) s d)
          have OZ := Lib.hid hoz
          clear r3 r4 r5 hoz
          go_wp2_with fail
          go_ret
          exact ⟨_, rfl, OZ.out, TZ.out⟩
end Go.Proofs.YtleamondilmojaaDoor
