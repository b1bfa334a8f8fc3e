/- impl.Turned: what turns over a history tell. -/
import Derived.Test.YtbkdppfjmfepiaaOlder
import Derived.Test.YtbkdppfjmfepiaaTurnsArg
import Derived.Deep.Cut
namespace Go.Proofs.Ytbkdppfjmfepiaa
open Go.RowKit
set_option linter.unusedVariables false
set_option linter.unusedSimpArgs false
set_option linter.unnecessarySimpa false
set_option maxRecDepth 100000

theorem info_b : (Try.prog.info? 4).map (fun i => (i.zero, i.size, i.bytes)) = some (some (.bool false), 1, 1) := by kernel_rfl
theorem own_nil (w : World) (base : Nat) (e : TypeId) : w.ownsRow base e 1 (.slice none 0 0) 0 [] := ⟨rfl, .inl ⟨rfl, rfl⟩⟩
theorem len_snoc {α : Type} (l : List α) (x : α) : (l ++ [x]).length = l.length + 1 := by simp
theorem But.two {p q : Nat} {u v : World} (h : But p u v) : Two p q u v := ⟨h.os, h.tape, h.output, h.size, fun k hk h1 _ => h.block k hk h1⟩

theorem bufAt0_any (v : ByteArray) (w : World) : Calls Try.prog 48 #[.string v, .int .i64 0] w fun e w' => ∃ bp lb, e = .returned (.pointer (some ⟨bp, 0, none⟩)) ∧ Old w w' ∧ w.heap.size ≤ bp ∧ w.heap.size ≤ lb ∧ BF w' bp lb v 0 := bufAt_any v 0 w
set_option maxHeartbeats 4000000 in
theorem turned_any (v : Value) (l : List Trn) (w : World) (h : Turns w v l) (hl : l.length ≤ 900) (hf : ∀ j, j < l.length → fine (gt l j).2) (hops : ∀ j, j < l.length → 1 ≤ (gt l j).1 ∧ (gt l j).1 ≤ 4) :
    Calls Try.prog 18 #[v] w fun e w' => ∃ tv cv, e = .returned (.tuple #[tv, cv]) ∧ Old w w' ∧ w'.ownsRow w.heap.size 9 1 tv (hAll l).2.1.length ((hAll l).2.1.map Value.string) ∧ w'.ownsRow w.heap.size 4 1 cv (hAll l).2.2.length ((hAll l).2.2.map Value.bool) := by
  have HT := Lib.hid h
  have HF := Lib.hid hf
  have HOP := Lib.hid hops
  have HOP := Lib.hid hops
  have HOP := Lib.hid hops
  have HOP := Lib.hid hops
  obtain ⟨ad, c, rfl, h2, h3, h4, h5⟩ := h
  clear h4 h5 hf hops
  unfold maxLen at h3
  go_enter Try.func18, Try.ntmps18
  go_wp2_with (go_at_call 47; refine (newHist_any w).mono ?_; rintro e w1 ⟨hp, kb, hv, kc, rfl, o1, hhp, hb1⟩; have H1 := Lib.hid hb1; have O1 := Lib.hid o1; clear o1 hb1)
  obtain ⟨hb, hc, rfl⟩ := H1.out.2.2.2.2.2.2
  go_loopw [2, 3, 13] (fun tv cv i wr => ∃ k kb hb kc hc : Nat, k ≤ l.length ∧ i = .int .i64 k ∧ TS wr hp kb hb w.heap.size kc hc (hAll (l.take k)).1 tv cv (hAll (l.take k)).2.1 (hAll (l.take k)).2.2 ∧ Old w wr) (fun _ _ i _ => l.length - (intOf i).toNat)
  case atStart =>
    refine ⟨0, kb, hb, kc, hc, Nat.zero_le _, rfl, ?_, O1.out⟩
    rw [List.take_zero, hAll_nil]
    exact ⟨H1.out, own_nil _ _ _, own_nil _ _ _, by simp [Value.ownBlock], by simp [Value.ownBlock], by simp [Value.ownBlock], by simp [Value.ownBlock], by simp [Value.ownBlock], by simp [Value.ownBlock], by simp [Value.ownBlock]⟩
  case round =>
    obtain ⟨k, kb, hb, kc, hc, hk, rfl, hts, hold⟩ := hrel
    by_cases hkn : k < l.length
    · obtain ⟨tb, to, rfl, hc0, hc1⟩ := (HT.out.old hold).cells k hkn
      obtain ⟨m, hm⟩ : ∃ m, m = (hAll (l.take k)).1 := ⟨_, rfl⟩
      obtain ⟨ts, hts_⟩ : ∃ ts, ts = (hAll (l.take k)).2.1 := ⟨_, rfl⟩
      obtain ⟨bs, hbs_⟩ : ∃ bs, bs = (hAll (l.take k)).2.2 := ⟨_, rfl⟩
      obtain ⟨op, hop⟩ : ∃ op, op = (gt l k).1 := ⟨_, rfl⟩
      obtain ⟨s, hs⟩ : ∃ s, s = (gt l k).2 := ⟨_, rfl⟩
      have hnext := hAll_take hkn
      have hmok := hAll_ok l HF.out k hk
      have hl1 := hAll_len1 l k hk
      have hl2 := hAll_len2 l k hk
      have hfs := HF.out k hkn
      have hgt : gt l k = (op, s) := by rw [hop, hs]
      rw [← hop] at hc0
      have hopk := HOP.out k hkn
      rw [← hop] at hopk
      have hopk := HOP.out k hkn
      rw [← hop] at hopk
      have hopk := HOP.out k hkn
      rw [← hop] at hopk
      have hopk := HOP.out k hkn
      rw [← hop] at hopk
      rw [← hs] at hc1 hfs
      rw [← Nat.add_assoc] at hc1
      rw [← hm] at hmok hts
      rw [← hts_] at hts hl1
      rw [← hbs_] at hts hl2
      rw [← hm, ← hts_, ← hbs_, hgt] at hnext
      have HOK := Lib.hid hopk
      have HOK := Lib.hid hopk
      have HOK := Lib.hid hopk
      have HOK := Lib.hid hopk
      have NX := Lib.hid hnext
      have MK := Lib.hid hmok
      have L1 := Lib.hid hl1
      have L2 := Lib.hid hl2
      have FS := Lib.hid hfs
      have TT := Lib.hid hts
      have OO := Lib.hid hold
      clear hnext hmok hl1 hl2 hfs hts hold hm hts_ hbs_ hop hs hgt hopk
      have ik : (0 : Int) ≤ k := by omega
      have ik2 : (k : Int) < l.length := by omega
      go_wp2_with fail
      refine (bufAt0_any s _).mono ?_
      rintro e w2 ⟨bp, lb, rfl, o2, hbp, hlb, hbf⟩
      have d0 : w2.cell? ⟨wr.heap.size, 0, none⟩ = some (.int .i64 op) := (o2.cell (by simp)).trans ((bcell (heap_alloc_new wr _) 0).trans rfl)
      have d1 : w2.cell? ⟨wr.heap.size, 1, none⟩ = some (.string s) := (o2.cell (by simp)).trans ((bcell (heap_alloc_new wr _) 1).trans rfl)
      have T2 := Lib.hid (TT.out.old ((Old.alloc _ _).trans o2))
      have O2 := Lib.hid (OO.out.trans ((Old.alloc _ _).trans o2))
      have B2 := Lib.hid hbf
      have DO : Hid (wr.heap.size < w2.heap.size) := by unfold Hid; have := o2.size; simp at this; omega
      clear o2 hbp hlb hbf TT OO hc0 hc1
--BEGIN
      have hbb : hb ≠ hp := by have := T2.out.h.2.2.2.2.1; simpa [Value.ownBlock] using this
      have HB1 : Hid (w.heap.size ≤ hb ∧ w.heap.size ≤ kb) := ⟨(own_inside T2.out.h.2.1 hb rfl).1, (own_inside T2.out.h.2.2.1 kb rfl).1⟩
      have hkl : m.ks.length ≤ 1000 := by have := MK.out.kl; have := MK.out.hl; omega
      have hhl : m.hs.length + 1 ≤ 1000 := by have := MK.out.hl; omega
      rcases (show op = 1 ∨ op = 2 ∨ op = 3 ∨ op = 4 by have := HOK.out; omega) with k1 | k1 | k1 | k1
      · subst k1
        go_upto_region 18 with (first
          | (go_at_call 49; refine (add_any hp hb hc w.heap.size _ m.hs s m.at_ w2 T2.out.h.1 T2.out.h.2.1 hbb hhl O2.out.size).mono ?_; rintro e w3 ⟨kx, kcx, hx, hcx, rfl, h3, t3, hkx, hhx⟩; have H3 := Lib.hid h3; have T3 := Lib.hid t3; have J3 : Hid (w2.heap.size ≤ kx ∧ (hx = hb ∨ w2.heap.size ≤ hx)) := ⟨hkx, hhx⟩; clear h3 t3 hkx hhx d0 d1))
        have SX : Hid (hStep m (1, s) = _) := hStep1 rfl
        have TX := Lib.hid (T2.out.hist (m' := ⟨m.hs ++ [s], m.hs ++ [s] ++ [⟨#[]⟩], (m.hs ++ [s]).length⟩) (Or.inr rfl) T3.out H3.out (Or.inr J3.out.1) J3.out.2)
        have OX := Lib.hid (O2.out.two T3.out hhp HB1.out.1)
        clear T2 O2 B2 DO H3 T3 J3
        skip
        go_wp2_with (first
          | (at_builtin; refine wpList_append1_at rfl _ _ 34 9 9 (.string ByteArray.empty) _ 16 rfl Try.underlying34 info_s rfl w.heap.size _ ts.length _ rfl TX.out.t rfl rfl (by have := L1.out; omega) (by have := L1.out; omega) OX.out.size ?_; intro v' w5 hown1 hg1 hv1; obtain ⟨tb', tc', rfl, hat⟩ := hv1; have TY := Lib.hid (TX.out.text hown1 hg1 hat); have OY := Lib.hid (OX.out.own (Nat.le_refl _) TX.out.t hg1); clear hown1 hg1 hat TX OX)
          | (at_builtin; refine wpList_append1_at rfl _ _ 40 4 4 (.bool false) _ 1 rfl Try.underlying40 info_b rfl w.heap.size _ bs.length _ rfl TY.out.c rfl rfl (by have := L2.out; omega) (by have := L2.out; omega) OY.out.size ?_; intro v' w6 hown1 hg1 hv1; obtain ⟨cb', cc', rfl, hat⟩ := hv1; have TZ := Lib.hid (TY.out.chg hown1 hg1 hat); have OZ := Lib.hid (OY.out.own (Nat.le_refl _) TY.out.c hg1); clear hown1 hg1 hat TY OY))
        go_roundw
        case rel =>
          have tz := TZ.out
          rw [len_snoc ts, len_snoc bs] at tz
          have e := NX.out
          rw [SX.out] at e
          have e1 := congrArg (fun z => z.1) e
          have e2 := congrArg (fun z => z.2.1) e
          have e3 := congrArg (fun z => z.2.2) e
          dsimp only at e1 e2 e3
          rw [← e1, ← e2, ← e3] at tz
          exact ⟨k + 1, _, _, _, _, by omega, by go_num, tz, OZ.out⟩
        case measure => simp [intOf]; omega
      · subst k1
        by_cases k0 : m.at_ = 0
        · have hz : Hid (m.at_ = 0) := k0
          have T20 := T2.out.h
          rw [k0] at T20
          have TZ0 := Lib.hid T20
          clear T20 k0
          go_upto_region 18 with (first
            | (go_at_call 51; refine (older_end hp kb w.heap.size hb kc hc bp m.hs m.ks w2 TZ0.out hkl).mono ?_; rintro e w3 ⟨rfl, o3⟩; have B3 := Lib.hid (B2.out.old o3); have O3 := Lib.hid o3; clear o3 d0 d1)
            | (go_at_call 52; refine (text_any bp lb s 0 w3 B3.out).mono ?_; rintro e w4 ⟨rfl, nd, rfl⟩))
          have SX : Hid (hStep m (2, s) = _) := hStep2a rfl hz.out
          have TX := Lib.hid (T2.out.old (O3.out.trans (Old.drewN w3 nd)))
          have OX := Lib.hid (O2.out.trans (O3.out.trans (Old.drewN w3 nd)))
          clear T2 O2 B2 DO B3 O3
          generalize w3.drewN nd = wx at TX OX ⊢
          go_wp2_with (first
            | (at_builtin; refine wpList_append1_at rfl _ _ 34 9 9 (.string ByteArray.empty) _ 16 rfl Try.underlying34 info_s rfl w.heap.size _ ts.length _ rfl TX.out.t rfl rfl (by have := L1.out; omega) (by have := L1.out; omega) OX.out.size ?_; intro v' w5 hown1 hg1 hv1; obtain ⟨tb', tc', rfl, hat⟩ := hv1; have TY := Lib.hid (TX.out.text hown1 hg1 hat); have OY := Lib.hid (OX.out.own (Nat.le_refl _) TX.out.t hg1); clear hown1 hg1 hat TX OX)
            | (at_builtin; refine wpList_append1_at rfl _ _ 40 4 4 (.bool false) _ 1 rfl Try.underlying40 info_b rfl w.heap.size _ bs.length _ rfl TY.out.c rfl rfl (by have := L2.out; omega) (by have := L2.out; omega) OY.out.size ?_; intro v' w6 hown1 hg1 hv1; obtain ⟨cb', cc', rfl, hat⟩ := hv1; have TZ := Lib.hid (TY.out.chg hown1 hg1 hat); have OZ := Lib.hid (OY.out.own (Nat.le_refl _) TY.out.c hg1); clear hown1 hg1 hat TY OY))
          go_roundw
          case rel =>
            have tz := TZ.out
            rw [len_snoc ts, len_snoc bs] at tz
            have e := NX.out
            rw [SX.out] at e
            have e1 := congrArg (fun z => z.1) e
            have e2 := congrArg (fun z => z.2.1) e
            have e3 := congrArg (fun z => z.2.2) e
            dsimp only at e1 e2 e3
            rw [← e1, ← e2, ← e3] at tz
            exact ⟨k + 1, _, _, _, _, by omega, by go_num, tz, OZ.out⟩
          case measure => simp [intOf]; omega
        · have hz : Hid (m.at_ ≠ 0) := k0
          have hz1 : 0 < m.at_ := by omega
          clear k0
          go_upto_region 18 with (first
            | (go_at_call 51; refine (older_any hp kb w.heap.size hb kc hc bp lb m.hs m.ks m.at_ s 0 w2 T2.out.h B2.out hz1 MK.out.lt hkl (MK.out.text (by have := MK.out.lt; omega))).mono ?_; rintro e w3 ⟨nb, nl, rfl, h3, b3, t3⟩; have H3 := Lib.hid h3; have B3 := Lib.hid b3; have T3 := Lib.hid t3; clear h3 b3 t3 d0 d1)
            | (go_at_call 52; refine (text_any nb nl (gs m.ks (m.at_ - 1)) (gs m.ks (m.at_ - 1)).size w3 B3.out).mono ?_; rintro e w4 ⟨rfl, nd, rfl⟩))
          have SX : Hid (hStep m (2, s) = _) := hStep2b rfl hz.out
          have TX := Lib.hid ((T2.out.hist (m' := ⟨m.hs, m.ks.set m.at_ s, (m.at_ - 1)⟩) (Or.inl rfl) T3.out H3.out (Or.inl rfl) (Or.inl rfl)).old (Old.drewN w3 nd))
          have OX := Lib.hid ((O2.out.two T3.out hhp HB1.out.2).trans (Old.drewN w3 nd))
          clear T2 O2 B2 DO B3 T3 H3
          generalize w3.drewN nd = wx at TX OX ⊢
          go_wp2_with (first
            | (at_builtin; refine wpList_append1_at rfl _ _ 34 9 9 (.string ByteArray.empty) _ 16 rfl Try.underlying34 info_s rfl w.heap.size _ ts.length _ rfl TX.out.t rfl rfl (by have := L1.out; omega) (by have := L1.out; omega) OX.out.size ?_; intro v' w5 hown1 hg1 hv1; obtain ⟨tb', tc', rfl, hat⟩ := hv1; have TY := Lib.hid (TX.out.text hown1 hg1 hat); have OY := Lib.hid (OX.out.own (Nat.le_refl _) TX.out.t hg1); clear hown1 hg1 hat TX OX)
            | (at_builtin; refine wpList_append1_at rfl _ _ 40 4 4 (.bool false) _ 1 rfl Try.underlying40 info_b rfl w.heap.size _ bs.length _ rfl TY.out.c rfl rfl (by have := L2.out; omega) (by have := L2.out; omega) OY.out.size ?_; intro v' w6 hown1 hg1 hv1; obtain ⟨cb', cc', rfl, hat⟩ := hv1; have TZ := Lib.hid (TY.out.chg hown1 hg1 hat); have OZ := Lib.hid (OY.out.own (Nat.le_refl _) TY.out.c hg1); clear hown1 hg1 hat TY OY))
          go_roundw
          case rel =>
            have tz := TZ.out
            rw [len_snoc ts, len_snoc bs] at tz
            have e := NX.out
            rw [SX.out] at e
            have e1 := congrArg (fun z => z.1) e
            have e2 := congrArg (fun z => z.2.1) e
            have e3 := congrArg (fun z => z.2.2) e
            dsimp only at e1 e2 e3
            rw [← e1, ← e2, ← e3] at tz
            exact ⟨k + 1, _, _, _, _, by omega, by go_num, tz, OZ.out⟩
          case measure => simp [intOf]; omega
      · subst k1
        by_cases k0 : m.at_ + 1 = m.ks.length
        · have hz : Hid (m.at_ + 1 = m.ks.length) := k0
          clear k0
          go_upto_region 18 with (first
            | (go_at_call 53; refine (newer_end hp kb w.heap.size hb kc hc bp m.hs m.ks m.at_ w2 T2.out.h hz.out hkl).mono ?_; rintro e w3 ⟨rfl, o3⟩; have B3 := Lib.hid (B2.out.old o3); have O3 := Lib.hid o3; clear o3 d0 d1)
            | (go_at_call 52; refine (text_any bp lb s 0 w3 B3.out).mono ?_; rintro e w4 ⟨rfl, nd, rfl⟩))
          have SX : Hid (hStep m (3, s) = _) := hStep3a rfl hz.out
          have TX := Lib.hid (T2.out.old (O3.out.trans (Old.drewN w3 nd)))
          have OX := Lib.hid (O2.out.trans (O3.out.trans (Old.drewN w3 nd)))
          clear T2 O2 B2 DO B3 O3
          generalize w3.drewN nd = wx at TX OX ⊢
          go_wp2_with (first
            | (at_builtin; refine wpList_append1_at rfl _ _ 34 9 9 (.string ByteArray.empty) _ 16 rfl Try.underlying34 info_s rfl w.heap.size _ ts.length _ rfl TX.out.t rfl rfl (by have := L1.out; omega) (by have := L1.out; omega) OX.out.size ?_; intro v' w5 hown1 hg1 hv1; obtain ⟨tb', tc', rfl, hat⟩ := hv1; have TY := Lib.hid (TX.out.text hown1 hg1 hat); have OY := Lib.hid (OX.out.own (Nat.le_refl _) TX.out.t hg1); clear hown1 hg1 hat TX OX)
            | (at_builtin; refine wpList_append1_at rfl _ _ 40 4 4 (.bool false) _ 1 rfl Try.underlying40 info_b rfl w.heap.size _ bs.length _ rfl TY.out.c rfl rfl (by have := L2.out; omega) (by have := L2.out; omega) OY.out.size ?_; intro v' w6 hown1 hg1 hv1; obtain ⟨cb', cc', rfl, hat⟩ := hv1; have TZ := Lib.hid (TY.out.chg hown1 hg1 hat); have OZ := Lib.hid (OY.out.own (Nat.le_refl _) TY.out.c hg1); clear hown1 hg1 hat TY OY))
          go_roundw
          case rel =>
            have tz := TZ.out
            rw [len_snoc ts, len_snoc bs] at tz
            have e := NX.out
            rw [SX.out] at e
            have e1 := congrArg (fun z => z.1) e
            have e2 := congrArg (fun z => z.2.1) e
            have e3 := congrArg (fun z => z.2.2) e
            dsimp only at e1 e2 e3
            rw [← e1, ← e2, ← e3] at tz
            exact ⟨k + 1, _, _, _, _, by omega, by go_num, tz, OZ.out⟩
          case measure => simp [intOf]; omega
        · have hz : Hid (m.at_ + 1 ≠ m.ks.length) := k0
          have hz1 : m.at_ + 1 < m.ks.length := by have := MK.out.lt; omega
          clear k0
          go_upto_region 18 with (first
            | (go_at_call 53; refine (newer_any hp kb w.heap.size hb kc hc bp lb m.hs m.ks m.at_ s 0 w2 T2.out.h B2.out hz1 hkl (MK.out.text hz1)).mono ?_; rintro e w3 ⟨nb, nl, rfl, h3, b3, t3⟩; have H3 := Lib.hid h3; have B3 := Lib.hid b3; have T3 := Lib.hid t3; clear h3 b3 t3 d0 d1)
            | (go_at_call 52; refine (text_any nb nl (gs m.ks (m.at_ + 1)) (gs m.ks (m.at_ + 1)).size w3 B3.out).mono ?_; rintro e w4 ⟨rfl, nd, rfl⟩))
          have SX : Hid (hStep m (3, s) = _) := hStep3b rfl hz.out
          have TX := Lib.hid ((T2.out.hist (m' := ⟨m.hs, m.ks.set m.at_ s, (m.at_ + 1)⟩) (Or.inl rfl) T3.out H3.out (Or.inl rfl) (Or.inl rfl)).old (Old.drewN w3 nd))
          have OX := Lib.hid ((O2.out.two T3.out hhp HB1.out.2).trans (Old.drewN w3 nd))
          clear T2 O2 B2 DO B3 T3 H3
          generalize w3.drewN nd = wx at TX OX ⊢
          go_wp2_with (first
            | (at_builtin; refine wpList_append1_at rfl _ _ 34 9 9 (.string ByteArray.empty) _ 16 rfl Try.underlying34 info_s rfl w.heap.size _ ts.length _ rfl TX.out.t rfl rfl (by have := L1.out; omega) (by have := L1.out; omega) OX.out.size ?_; intro v' w5 hown1 hg1 hv1; obtain ⟨tb', tc', rfl, hat⟩ := hv1; have TY := Lib.hid (TX.out.text hown1 hg1 hat); have OY := Lib.hid (OX.out.own (Nat.le_refl _) TX.out.t hg1); clear hown1 hg1 hat TX OX)
            | (at_builtin; refine wpList_append1_at rfl _ _ 40 4 4 (.bool false) _ 1 rfl Try.underlying40 info_b rfl w.heap.size _ bs.length _ rfl TY.out.c rfl rfl (by have := L2.out; omega) (by have := L2.out; omega) OY.out.size ?_; intro v' w6 hown1 hg1 hv1; obtain ⟨cb', cc', rfl, hat⟩ := hv1; have TZ := Lib.hid (TY.out.chg hown1 hg1 hat); have OZ := Lib.hid (OY.out.own (Nat.le_refl _) TY.out.c hg1); clear hown1 hg1 hat TY OY))
          go_roundw
          case rel =>
            have tz := TZ.out
            rw [len_snoc ts, len_snoc bs] at tz
            have e := NX.out
            rw [SX.out] at e
            have e1 := congrArg (fun z => z.1) e
            have e2 := congrArg (fun z => z.2.1) e
            have e3 := congrArg (fun z => z.2.2) e
            dsimp only at e1 e2 e3
            rw [← e1, ← e2, ← e3] at tz
            exact ⟨k + 1, _, _, _, _, by omega, by go_num, tz, OZ.out⟩
          case measure => simp [intOf]; omega
      · subst k1
        go_upto_region 18 with (first
          | (go_at_call 50; refine (clear_any hp hb hc w.heap.size _ m.hs m.at_ w2 T2.out.h.1 T2.out.h.2.1 hbb (by omega) O2.out.size).mono ?_; rintro e w3 ⟨kx, kcx, rfl, h3, t3, hkx⟩; have H3 := Lib.hid h3; have T3 := Lib.hid t3; have J3 : Hid (w2.heap.size ≤ kx) := hkx; clear h3 t3 hkx d0 d1))
        have SX : Hid (hStep m (4, s) = _) := hStep4 rfl
        have TX := Lib.hid (T2.out.hist (m' := ⟨m.hs, m.hs ++ [⟨#[]⟩], m.hs.length⟩) (Or.inl rfl) (T3.out.two (q := kb)) H3.out (Or.inr J3.out) (Or.inl rfl))
        have OX := Lib.hid (O2.out.but T3.out hhp)
        clear T2 O2 B2 DO H3 T3 J3
        skip
        go_wp2_with (first
          | (at_builtin; refine wpList_append1_at rfl _ _ 34 9 9 (.string ByteArray.empty) _ 16 rfl Try.underlying34 info_s rfl w.heap.size _ ts.length _ rfl TX.out.t rfl rfl (by have := L1.out; omega) (by have := L1.out; omega) OX.out.size ?_; intro v' w5 hown1 hg1 hv1; obtain ⟨tb', tc', rfl, hat⟩ := hv1; have TY := Lib.hid (TX.out.text hown1 hg1 hat); have OY := Lib.hid (OX.out.own (Nat.le_refl _) TX.out.t hg1); clear hown1 hg1 hat TX OX)
          | (at_builtin; refine wpList_append1_at rfl _ _ 40 4 4 (.bool false) _ 1 rfl Try.underlying40 info_b rfl w.heap.size _ bs.length _ rfl TY.out.c rfl rfl (by have := L2.out; omega) (by have := L2.out; omega) OY.out.size ?_; intro v' w6 hown1 hg1 hv1; obtain ⟨cb', cc', rfl, hat⟩ := hv1; have TZ := Lib.hid (TY.out.chg hown1 hg1 hat); have OZ := Lib.hid (OY.out.own (Nat.le_refl _) TY.out.c hg1); clear hown1 hg1 hat TY OY))
        go_roundw
        case rel =>
          have tz := TZ.out
          rw [len_snoc ts, len_snoc bs] at tz
          have e := NX.out
          rw [SX.out] at e
          have e1 := congrArg (fun z => z.1) e
          have e2 := congrArg (fun z => z.2.1) e
          have e3 := congrArg (fun z => z.2.2) e
          dsimp only at e1 e2 e3
          rw [← e1, ← e2, ← e3] at tz
          exact ⟨k + 1, _, _, _, _, by omega, by go_num, tz, OZ.out⟩
        case measure => simp [intOf]; omega
--END
    · have hkn' : k = l.length := by omega
      subst hkn'
      rw [List.take_length] at hts
      have TT := Lib.hid hts
      have OO := Lib.hid hold
      clear hts hold
      go_wp2_with fail
      go_ret2
      exact ⟨_, _, rfl, OO.out, TT.out.t, TT.out.c⟩
end Go.Proofs.Ytbkdppfjmfepiaa
