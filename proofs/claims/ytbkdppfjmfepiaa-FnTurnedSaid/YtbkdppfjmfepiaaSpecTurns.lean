/- spec.Turns: what turns over a history tell. -/
import Derived.Test.YtbkdppfjmfepiaaProg
import Derived.Test.YtbkdppfjmfepiaaTurnsArg
import Derived.Test.YtbkdppfjmfepiaaRows4
import Derived.Deep.Cut
namespace Go.Proofs.Ytbkdppfjmfepiaa
open Go.RowKit
set_option linter.unusedVariables false
set_option linter.unusedSimpArgs false
set_option linter.unnecessarySimpa false
set_option maxRecDepth 100000

theorem info_s4 : (Try.prog.info? 9).map (fun i => (i.zero, i.size, i.bytes)) = some (some (.string ByteArray.empty), 1, 16) := by kernel_rfl
theorem info_b4 : (Try.prog.info? 4).map (fun i => (i.zero, i.size, i.bytes)) = some (some (.bool false), 1, 1) := by kernel_rfl

/-- The reference's rows: what was added, what is kept, the texts that are told, and whether it changed. -/
structure SP (w : World) (base : Nat) (m : HM) (tv cv av kv : Value) (ts : List ByteArray) (bs : List Bool) : Prop where
  t : w.ownsRow base 9 1 tv ts.length (ts.map Value.string)
  c : w.ownsRow base 4 1 cv bs.length (bs.map Value.bool)
  a : w.ownsRow base 9 1 av m.hs.length (m.hs.map Value.string)
  k : w.ownsRow base 9 1 kv m.ks.length (m.ks.map Value.string)
  tc : Ap tv cv
  ta : Ap tv av
  tk : Ap tv kv
  ca : Ap cv av
  ck : Ap cv kv
  ak : Ap av kv
section
variable {w w' : World} {base : Nat} {m : HM} {tv cv av kv : Value} {ts : List ByteArray} {bs : List Bool}
theorem SP.old (s : SP w base m tv cv av kv ts bs) (o : Old w w') : SP w' base m tv cv av kv ts bs :=
  ⟨own_old s.t o, own_old s.c o, own_old s.a o, own_old s.k o, s.tc, s.ta, s.tk, s.ca, s.ck, s.ak⟩
theorem SP.text {x : ByteArray} {b c : Nat} (s : SP w base m tv cv av kv ts bs) (ho : w'.ownsRow base 9 1 (.slice (some ⟨b, 0, none⟩) (ts.length + 1) c) (ts.length + 1) (ts.map Value.string ++ [.string x])) (g : w.grownBy w' tv.ownBlock) (hb : tv.ownBlock = some b ∨ w.heap.size ≤ b) :
    SP w' base m (.slice (some ⟨b, 0, none⟩) (ts.length + 1) c) cv av kv (ts ++ [x]) bs :=
  ⟨by rw [List.length_append, List.map_append]; exact ho, own_apart s.c g s.tc, own_apart s.a g s.ta, own_apart s.k g s.tk, s.tc.grow s.c hb, s.ta.grow s.a hb, s.tk.grow s.k hb, s.ca, s.ck, s.ak⟩
theorem SP.chg {x : Bool} {b c : Nat} (s : SP w base m tv cv av kv ts bs) (ho : w'.ownsRow base 4 1 (.slice (some ⟨b, 0, none⟩) (bs.length + 1) c) (bs.length + 1) (bs.map Value.bool ++ [.bool x])) (g : w.grownBy w' cv.ownBlock) (hb : cv.ownBlock = some b ∨ w.heap.size ≤ b) :
    SP w' base m tv (.slice (some ⟨b, 0, none⟩) (bs.length + 1) c) av kv ts (bs ++ [x]) :=
  ⟨own_apart s.t g s.tc.symm, by rw [List.length_append, List.map_append]; exact ho, own_apart s.a g s.ca, own_apart s.k g s.ck, (s.tc.symm.grow s.t hb).symm, s.ta, s.tk, s.ca.grow s.a hb, s.ck.grow s.k hb, s.ak⟩
theorem SP.add {x : ByteArray} {b c : Nat} (s : SP w base m tv cv av kv ts bs) (ho : w'.ownsRow base 9 1 (.slice (some ⟨b, 0, none⟩) (m.hs.length + 1) c) (m.hs.length + 1) (m.hs.map Value.string ++ [.string x])) (g : w.grownBy w' av.ownBlock) (hb : av.ownBlock = some b ∨ w.heap.size ≤ b) :
    SP w' base ⟨m.hs ++ [x], m.ks, m.at_⟩ tv cv (.slice (some ⟨b, 0, none⟩) (m.hs.length + 1) c) kv ts bs :=
  ⟨own_apart s.t g s.ta.symm, own_apart s.c g s.ca.symm, by rw [List.length_append, List.map_append]; exact ho, own_apart s.k g s.ak, s.tc, (s.ta.symm.grow s.t hb).symm, s.tk, (s.ca.symm.grow s.c hb).symm, s.ck, s.ak.grow s.k hb⟩
theorem SP.keep {ks : List ByteArray} {at_ b n c : Nat} (s : SP w base m tv cv av kv ts bs) (o : Old w w') (hn : n = ks.length) (hb : base ≤ w.heap.size) (ho : w'.ownsRow w.heap.size 9 1 (.slice (some ⟨b, 0, none⟩) n c) n (ks.map Value.string)) :
    SP w' base ⟨m.hs, ks, at_⟩ tv cv av (.slice (some ⟨b, 0, none⟩) n c) ts bs := by
  subst hn
  have hbb := (own_inside ho b rfl).1
  exact ⟨own_old s.t o, own_old s.c o, own_old s.a o, own_down ho hb, s.tc, s.ta, (Ap.fresh s.t hbb).symm, s.ca, (Ap.fresh s.c hbb).symm, (Ap.fresh s.a hbb).symm⟩
theorem SP.set {x : ByteArray} {at_ b n c j : Nat} (s : SP w base m tv cv av (.slice (some ⟨b, 0, none⟩) n c) ts bs) : SP (w.setCell ⟨b, j, none⟩ (.string x)) base ⟨m.hs, m.ks.set j x, at_⟩ tv cv av (.slice (some ⟨b, 0, none⟩) n c) ts bs := by
  have hn : n = m.ks.length := by
    rcases s.k.2 with ⟨h, _⟩ | ⟨g, cap, cur, h, _⟩
    · cases h
    · injection h
  subst hn
  refine ⟨own_set s.t s.tk.symm, own_set s.c s.ck.symm, own_set s.a s.ak.symm, ?_, s.tc, s.ta, s.tk, s.ca, s.ck, s.ak⟩
  have st := (s.k.stored j (.string x)).1
  simp only [List.length_set, List.map_set]
  exact st
theorem SP.kept (s : SP w base m tv cv av kv ts bs) (h : 0 < m.ks.length) : ∃ b c, kv = .slice (some ⟨b, 0, none⟩) m.ks.length c ∧ m.ks.length ≤ c ∧ c ≤ maxLen ∧ (∀ j, j < m.ks.length → w.cell? ⟨b, j, none⟩ = some (.string (gs m.ks j))) ∧ ∀ j, w.frozen? ⟨b, j, none⟩ = false := by
  obtain ⟨b, c, rfl⟩ := own_some s.k h
  have h4 := own_lt s.k
  refine ⟨b, c, rfl, h4.2.2.1, h4.2.2.2, fun j hj => ?_, fun j => s.k.frozenAt j⟩
  rw [own_cell s.k j hj, gv_lt (by simpa using hj)]; simp [gs_lt hj]
end
--BEGIN
set_option maxHeartbeats 4000000 in
theorem specTurns_any (v : Value) (l : List Trn) (w : World) (h : Turns w v l) (hl : l.length ≤ 900) (hf : ∀ j, j < l.length → fine (gt l j).2) (hops : ∀ j, j < l.length → 1 ≤ (gt l j).1 ∧ (gt l j).1 ≤ 4) :
    Calls Try.prog 20 #[v] w fun e w' => ∃ tv cv, e = .returned (.tuple #[tv, cv]) ∧ Old w w' ∧ w'.ownsRow w.heap.size 9 1 tv (hAll l).2.1.length ((hAll l).2.1.map Value.string) ∧ w'.ownsRow w.heap.size 4 1 cv (hAll l).2.2.length ((hAll l).2.2.map Value.bool) := by
  have HT := Lib.hid h
  have HF := Lib.hid hf
  have HOP := Lib.hid hops
  obtain ⟨ad, c, rfl, h2, h3, h4, h5⟩ := h
  clear h4 h5 hf hops
  unfold maxLen at h3
  have P0 : Hid (SP (w.alloc (.cells #[.string ⟨#[]⟩] 9)) w.heap.size HM.new (.slice none 0 0) (.slice none 0 0) (.slice none 0 0) (.slice (some ⟨w.heap.size, 0, none⟩) 1 1) [] []) := by
    refine ⟨own_nil1 _ _ _, own_nil1 _ _ _, own_nil1 _ _ _, ⟨rfl, .inr ⟨w.heap.size, 1, _, rfl, Nat.le_refl _, heap_alloc_new w _, Nat.le_refl _, by unfold maxLen; omega, rfl, rfl⟩⟩, Ap.nil _, Ap.nil _, Ap.nil _, Ap.nil _, Ap.nil _, Ap.nil _⟩
  have O0 := Lib.hid (Old.alloc w (.cells #[.string ⟨#[]⟩] 9))
  go_enter Try.func20, Try.ntmps20
  go_upto_region 5 with fail
  generalize w.alloc (.cells #[.string ⟨#[]⟩] 9) = w0 at P0 O0 ⊢
  go_loopw [2, 3, 4, 5, 6, 7] (fun tv cv av kv at_ i wr => ∃ k : Nat, k ≤ l.length ∧ i = .int .i64 k ∧ at_ = .int .i64 (hAll (l.take k)).1.at_ ∧ SP wr w.heap.size (hAll (l.take k)).1 tv cv av kv (hAll (l.take k)).2.1 (hAll (l.take k)).2.2 ∧ Old w wr) (fun _ _ _ _ _ i _ => l.length - (intOf i).toNat)
  case atStart =>
    refine ⟨0, Nat.zero_le _, rfl, ?_, ?_, O0.out⟩
    · rw [List.take_zero, hAll_nil]; rfl
    · rw [List.take_zero, hAll_nil]; exact P0.out
  case round =>
    obtain ⟨k, hk, rfl, rfl, hts, hold⟩ := hrel
    by_cases hkn : k < l.length
    · obtain ⟨tb, to, rfl, hc0, hc1⟩ := (HT.out.old hold).cells k hkn
      obtain ⟨m, hm⟩ : ∃ m, m = (hAll (l.take k)).1 := ⟨_, rfl⟩
      obtain ⟨ts, hts_⟩ : ∃ ts, ts = (hAll (l.take k)).2.1 := ⟨_, rfl⟩
      obtain ⟨bs, hbs_⟩ : ∃ bs, bs = (hAll (l.take k)).2.2 := ⟨_, rfl⟩
      obtain ⟨op, hop⟩ : ∃ op, op = (gt l k).1 := ⟨_, rfl⟩
      obtain ⟨s, hs⟩ : ∃ s, s = (gt l k).2 := ⟨_, rfl⟩
      have hnext := hAll_take hkn
      have hmok := hAll_ok l HF.out k hk
      have hl1 := hAll_len1 l k hk
      have hl2 := hAll_len2 l k hk
      have hgt : gt l k = (op, s) := by rw [hop, hs]
      rw [← hop] at hc0
      have hopk := HOP.out k hkn
      rw [← hop] at hopk
      rw [← hs] at hc1
      rw [← Nat.add_assoc] at hc1
      rw [← hm] at hmok hts ⊢
      rw [← hts_] at hts hl1
      rw [← hbs_] at hts hl2
      rw [← hm, ← hts_, ← hbs_, hgt] at hnext
      have NX := Lib.hid hnext
      have MK := Lib.hid hmok
      have L1 := Lib.hid hl1
      have L2 := Lib.hid hl2
      have HOK := Lib.hid hopk
      have hkl : m.ks.length ≤ 1000 := by have := hmok.kl; have := hmok.hl; omega
      have hhl : m.hs.length + 1 ≤ 1000 := by have := hmok.hl; omega
      have hat : m.at_ < m.ks.length := hmok.lt
      obtain ⟨kb, kc, rfl, kc1, kc2, kcell, kfree⟩ := hts.kept (by omega)
      unfold maxLen at kc2
      have T2 := Lib.hid (hts.old (Old.alloc wr (.cells #[.int .i64 op, .string s] 39)))
      have O2 := Lib.hid (hold.trans (Old.alloc wr (.cells #[.int .i64 op, .string s] 39)))
      have KB : Hid (kb < wr.heap.size) := World.block_lt_of_cell? _ _ (kcell _ hat)
      have KC := Lib.hid kcell
      have KF := Lib.hid kfree
      clear hnext hmok hl1 hl2 hts hold hm hts_ hbs_ hop hs hgt hopk kcell kfree
      have ik : (0 : Int) ≤ k := by omega
      have ik2 : (k : Int) < l.length := by omega
      have e1 : IntKind.i64.wrap ((m.ks.length : Int) - 1) = (m.ks.length : Int) - 1 := IntWalk.i64_in _ (by omega)
      go_upto_region 14 with fail
      have d0 : (wr.alloc (.cells #[.int .i64 op, .string s] 39)).cell? ⟨wr.heap.size, 0, none⟩ = some (.int .i64 op) := (bcell4 (heap_alloc_new wr _) 0).trans rfl
      have d1 : (wr.alloc (.cells #[.int .i64 op, .string s] 39)).cell? ⟨wr.heap.size, 1, none⟩ = some (.string s) := (bcell4 (heap_alloc_new wr _) 1).trans rfl
      have KCA : Hid (∀ j, j < m.ks.length → (wr.alloc (.cells #[.int .i64 op, .string s] 39)).cell? ⟨kb, j, none⟩ = some (.string (gs m.ks j))) := fun j hj => ((Old.alloc wr _).cell KB.out).trans (KC.out _ hj)
      have KFA : Hid (∀ j, (wr.alloc (.cells #[.int .i64 op, .string s] 39)).frozen? ⟨kb, j, none⟩ = false) := fun j => ((Old.alloc wr _).frozen KB.out).trans (KF.out _)
      have KBT : Hid (kb < wr.heap.size) := KB
      clear KC KF hc0 hc1
      generalize wr.alloc (.cells #[.int .i64 op, .string s] 39) = w2 at T2 O2 d0 d1 KCA KFA ⊢
      rcases (show op = 1 ∨ op = 2 ∨ op = 3 ∨ op = 4 by have := HOK.out; omega) with k1 | k1 | k1 | k1
      · subst k1
        go_upto_region 17 with (at_builtin; refine wpList_append1_at rfl _ _ 34 9 9 (.string ByteArray.empty) _ 16 rfl Try.underlying34 info_s4 rfl w.heap.size _ m.hs.length _ rfl T2.out.a rfl rfl (by omega) (by omega) O2.out.size ?_; intro v' w6 hown1 hg1 hv1; obtain ⟨ab', ac', rfl, hat⟩ := hv1; have TA := Lib.hid (T2.out.add hown1 hg1 hat); have HA : Hid (w6.ownsRow w.heap.size 9 1 (.slice (some ⟨ab', 0, none⟩) (m.hs.length + 1) ac') (m.hs.length + 1) ((m.hs ++ [s]).map Value.string)) := (by rw [List.map_append]; exact hown1); have OA := Lib.hid (O2.out.own (Nat.le_refl _) T2.out.a hg1); clear hown1 hg1 hat)
        go_upto_region 21 with (first
          | (at_builtin; refine wpList_append_row rfl _ _ 34 9 (.string ByteArray.empty) 16 rfl Try.underlying34 info_s4 rfl w6.heap.size (.slice (some ⟨w6.heap.size, 0, none⟩) 0 0) 0 [] rfl (own_empty w6 9) w.heap.size _ (m.hs.length + 1) _ rfl (own_old HA.out (Old.alloc w6 _)) (strs_one _) (by first | omega | (simp; omega)) (by first | omega | (simp; omega)) (by simp) ?_; intro kv1 w7 hown1 hg1 hat1; simp only [Nat.zero_add, List.nil_append] at hown1; have R1 := Lib.hid hown1; have G1 : Hid (Old w6 w7) := (Old.alloc w6 _).grown hg1 (fun q hq => Nat.le_of_eq (by simpa [Value.ownBlock] using hq)); clear hown1 hg1 hat1)
          | (at_builtin; refine wpList_append1_at rfl _ _ 34 9 9 (.string ByteArray.empty) _ 16 rfl Try.underlying34 info_s4 rfl w6.heap.size _ (m.hs.length + 1) _ rfl R1.out rfl rfl (by first | omega | (simp; omega)) (by first | omega | (simp; omega)) G1.out.size ?_; intro v' w8 hown1 hg1 hv1; obtain ⟨kb', kc', rfl, hat⟩ := hv1; have R2 := Lib.hid hown1; have G2 := Lib.hid (G1.out.own (Nat.le_refl _) R1.out hg1); clear hown1 hg1 hat))
        have TX := Lib.hid (TA.out.keep (ks := (m.hs ++ [s]) ++ [⟨#[]⟩]) (at_ := (m.hs ++ [s]).length) (n := m.hs.length + 1 + 1) G2.out (by simp) OA.out.size (by simpa using R2.out))
        have OX := Lib.hid (OA.out.trans G2.out)
        have SX : Hid (hStep m (1, s) = _) := hStep1 rfl
        clear KCA KFA KB KBT T2 O2 d0 d1 TA OA HA R1 G1 R2 G2
        go_wp2_with (first
          | (at_builtin; refine wpList_append1_at rfl _ _ 34 9 9 (.string ByteArray.empty) _ 16 rfl Try.underlying34 info_s4 rfl w.heap.size _ ts.length _ rfl TX.out.t rfl rfl (by have := L1.out; omega) (by have := L1.out; omega) OX.out.size ?_; intro v' w5 hown1 hg1 hv1; obtain ⟨tb', tc', rfl, hat⟩ := hv1; have TY := Lib.hid (TX.out.text hown1 hg1 hat); have OY := Lib.hid (OX.out.own (Nat.le_refl _) TX.out.t hg1); clear hown1 hg1 hat TX OX)
          | (at_builtin; refine wpList_append1_at rfl _ _ 40 4 4 (.bool false) _ 1 rfl Try.underlying40 info_b4 rfl w.heap.size _ bs.length _ rfl TY.out.c rfl rfl (by have := L2.out; omega) (by have := L2.out; omega) OY.out.size ?_; intro v' w6 hown1 hg1 hv1; obtain ⟨cb', cc', rfl, hat⟩ := hv1; have TZ := Lib.hid (TY.out.chg hown1 hg1 hat); have OZ := Lib.hid (OY.out.own (Nat.le_refl _) TY.out.c hg1); clear hown1 hg1 hat TY OY))
        go_roundw
        case rel =>
          have tz := TZ.out
          have e := NX.out
          rw [SX.out] at e
          have e1 := congrArg (fun z => z.1) e
          have e2 := congrArg (fun z => z.2.1) e
          have e3 := congrArg (fun z => z.2.2) e
          dsimp only at e1 e2 e3
          have ea := congrArg HM.at_ e1
          try dsimp only at ea
          rw [← e2, ← e3] at tz
          refine ⟨k + 1, by omega, by go_num, ?_, ?_, OZ.out⟩
          · rw [ea]; try first | rfl | (simp; done) | (simp; omega) | go_num
          · rw [e1]; exact tz
        case measure => simp [intOf]; omega
      · subst k1
        by_cases k0 : m.at_ = 0
        · have hz : Hid (m.at_ = 0) := k0
          have k0' : ((m.at_ : Int) == 0) = true := by simp [k0]
          clear k0
          go_upto_region 21 with fail
          have TX := T2
          have OX := O2
          have SX : Hid (hStep m (2, s) = _) := hStep2a rfl hz.out
          clear k0'
          clear KCA KFA KB KBT T2 O2 d0 d1 
          go_wp2_with (first
            | (at_builtin; refine wpList_append1_at rfl _ _ 34 9 9 (.string ByteArray.empty) _ 16 rfl Try.underlying34 info_s4 rfl w.heap.size _ ts.length _ rfl TX.out.t rfl rfl (by have := L1.out; omega) (by have := L1.out; omega) OX.out.size ?_; intro v' w5 hown1 hg1 hv1; obtain ⟨tb', tc', rfl, hat⟩ := hv1; have TY := Lib.hid (TX.out.text hown1 hg1 hat); have OY := Lib.hid (OX.out.own (Nat.le_refl _) TX.out.t hg1); clear hown1 hg1 hat TX OX)
            | (at_builtin; refine wpList_append1_at rfl _ _ 40 4 4 (.bool false) _ 1 rfl Try.underlying40 info_b4 rfl w.heap.size _ bs.length _ rfl TY.out.c rfl rfl (by have := L2.out; omega) (by have := L2.out; omega) OY.out.size ?_; intro v' w6 hown1 hg1 hv1; obtain ⟨cb', cc', rfl, hat⟩ := hv1; have TZ := Lib.hid (TY.out.chg hown1 hg1 hat); have OZ := Lib.hid (OY.out.own (Nat.le_refl _) TY.out.c hg1); clear hown1 hg1 hat TY OY))
          go_roundw
          case rel =>
            have tz := TZ.out
            have e := NX.out
            rw [SX.out] at e
            have e1 := congrArg (fun z => z.1) e
            have e2 := congrArg (fun z => z.2.1) e
            have e3 := congrArg (fun z => z.2.2) e
            dsimp only at e1 e2 e3
            have ea := congrArg HM.at_ e1
            try dsimp only at ea
            rw [← e2, ← e3] at tz
            refine ⟨k + 1, by omega, by go_num, ?_, ?_, OZ.out⟩
            · rw [ea]; try first | rfl | (simp; done) | (simp; omega) | go_num
            · rw [e1]; exact tz
          case measure => simp [intOf]; omega
        · have hz : Hid (m.at_ ≠ 0) := k0
          have k0' : ((m.at_ : Int) == 0) = false := by simp; omega
          have hz1 : 0 < m.at_ := by omega
          have kk := KCA.out _ hat
          have kf := KFA.out m.at_
          have TX := Lib.hid (T2.out.set (x := s) (j := m.at_) (at_ := (m.at_ - 1)))
          have OX := Lib.hid (O2.out.stored (p := ⟨kb, m.at_, none⟩) (own_inside T2.out.k kb rfl).1 (.string s))
          have k2 : (w2.setCell ⟨kb, m.at_, none⟩ (.string s)).cell? ⟨kb, (m.at_ - 1), none⟩ = some (.string (gs m.ks ((m.at_ - 1)))) := (far_cell4 _ _ (Or.inr (by omega))).trans (KCA.out _ (by omega))
          have p0 : (w2.setCell ⟨kb, m.at_, none⟩ (.string s)).cell? ⟨wr.heap.size, 0, none⟩ = some (.int .i64 2) := (far_cell4 _ _ (Or.inl (by have := KBT.out; omega))).trans d0
          have i1 : (0 : Int) ≤ m.at_ := by omega
          have i2 : (m.at_ : Int) < m.ks.length := by omega
          have e2 : IntKind.i64.wrap ((m.at_ : Int) + 1) = (m.at_ : Int) + 1 := IntWalk.i64_in _ (by omega)
          have e3 : IntKind.i64.wrap ((m.at_ : Int) + 1 - 2) = ((m.at_ - 1 : Nat) : Int) := by rw [IntWalk.i64_in _ (by omega)]; omega
          have i3 : (0 : Int) ≤ ((m.at_ - 1 : Nat) : Int) := by omega
          have i4 : ((m.at_ - 1 : Nat) : Int) < m.ks.length := by omega
          go_upto_region 21 with fail
          clear kk kf k2 p0 k0'
          generalize w2.setCell ⟨kb, m.at_, none⟩ (.string s) = w3 at TX OX ⊢
          have SX : Hid (hStep m (2, s) = _) := hStep2b rfl hz.out
          clear KCA KFA KB KBT T2 O2 d0 d1 
          go_wp2_with (first
            | (at_builtin; refine wpList_append1_at rfl _ _ 34 9 9 (.string ByteArray.empty) _ 16 rfl Try.underlying34 info_s4 rfl w.heap.size _ ts.length _ rfl TX.out.t rfl rfl (by have := L1.out; omega) (by have := L1.out; omega) OX.out.size ?_; intro v' w5 hown1 hg1 hv1; obtain ⟨tb', tc', rfl, hat⟩ := hv1; have TY := Lib.hid (TX.out.text hown1 hg1 hat); have OY := Lib.hid (OX.out.own (Nat.le_refl _) TX.out.t hg1); clear hown1 hg1 hat TX OX)
            | (at_builtin; refine wpList_append1_at rfl _ _ 40 4 4 (.bool false) _ 1 rfl Try.underlying40 info_b4 rfl w.heap.size _ bs.length _ rfl TY.out.c rfl rfl (by have := L2.out; omega) (by have := L2.out; omega) OY.out.size ?_; intro v' w6 hown1 hg1 hv1; obtain ⟨cb', cc', rfl, hat⟩ := hv1; have TZ := Lib.hid (TY.out.chg hown1 hg1 hat); have OZ := Lib.hid (OY.out.own (Nat.le_refl _) TY.out.c hg1); clear hown1 hg1 hat TY OY))
          go_roundw
          case rel =>
            have tz := TZ.out
            have e := NX.out
            rw [SX.out] at e
            have e1 := congrArg (fun z => z.1) e
            have e2 := congrArg (fun z => z.2.1) e
            have e3 := congrArg (fun z => z.2.2) e
            dsimp only at e1 e2 e3
            have ea := congrArg HM.at_ e1
            try dsimp only at ea
            rw [← e2, ← e3] at tz
            refine ⟨k + 1, by omega, by go_num, ?_, ?_, OZ.out⟩
            · rw [ea]; try first | rfl | (simp; done) | (simp; omega) | go_num
            · rw [e1]; exact tz
          case measure => simp [intOf]; omega
      · subst k1
        by_cases k0 : m.at_ + 1 = m.ks.length
        · have hz : Hid (m.at_ + 1 = m.ks.length) := k0
          have k0' : ((m.at_ : Int) == (m.ks.length : Int) - 1) = true := by simp; omega
          clear k0
          go_upto_region 21 with fail
          have TX := T2
          have OX := O2
          have SX : Hid (hStep m (3, s) = _) := hStep3a rfl hz.out
          clear k0'
          clear KCA KFA KB KBT T2 O2 d0 d1 
          go_wp2_with (first
            | (at_builtin; refine wpList_append1_at rfl _ _ 34 9 9 (.string ByteArray.empty) _ 16 rfl Try.underlying34 info_s4 rfl w.heap.size _ ts.length _ rfl TX.out.t rfl rfl (by have := L1.out; omega) (by have := L1.out; omega) OX.out.size ?_; intro v' w5 hown1 hg1 hv1; obtain ⟨tb', tc', rfl, hat⟩ := hv1; have TY := Lib.hid (TX.out.text hown1 hg1 hat); have OY := Lib.hid (OX.out.own (Nat.le_refl _) TX.out.t hg1); clear hown1 hg1 hat TX OX)
            | (at_builtin; refine wpList_append1_at rfl _ _ 40 4 4 (.bool false) _ 1 rfl Try.underlying40 info_b4 rfl w.heap.size _ bs.length _ rfl TY.out.c rfl rfl (by have := L2.out; omega) (by have := L2.out; omega) OY.out.size ?_; intro v' w6 hown1 hg1 hv1; obtain ⟨cb', cc', rfl, hat⟩ := hv1; have TZ := Lib.hid (TY.out.chg hown1 hg1 hat); have OZ := Lib.hid (OY.out.own (Nat.le_refl _) TY.out.c hg1); clear hown1 hg1 hat TY OY))
          go_roundw
          case rel =>
            have tz := TZ.out
            have e := NX.out
            rw [SX.out] at e
            have e1 := congrArg (fun z => z.1) e
            have e2 := congrArg (fun z => z.2.1) e
            have e3 := congrArg (fun z => z.2.2) e
            dsimp only at e1 e2 e3
            have ea := congrArg HM.at_ e1
            try dsimp only at ea
            rw [← e2, ← e3] at tz
            refine ⟨k + 1, by omega, by go_num, ?_, ?_, OZ.out⟩
            · rw [ea]; try first | rfl | (simp; done) | (simp; omega) | go_num
            · rw [e1]; exact tz
          case measure => simp [intOf]; omega
        · have hz : Hid (m.at_ + 1 ≠ m.ks.length) := k0
          have k0' : ((m.at_ : Int) == (m.ks.length : Int) - 1) = false := by simp; omega
          have hz1 : m.at_ + 1 < m.ks.length := by omega
          clear k0
          have kk := KCA.out _ hat
          have kf := KFA.out m.at_
          have TX := Lib.hid (T2.out.set (x := s) (j := m.at_) (at_ := (m.at_ + 1)))
          have OX := Lib.hid (O2.out.stored (p := ⟨kb, m.at_, none⟩) (own_inside T2.out.k kb rfl).1 (.string s))
          have k2 : (w2.setCell ⟨kb, m.at_, none⟩ (.string s)).cell? ⟨kb, (m.at_ + 1), none⟩ = some (.string (gs m.ks ((m.at_ + 1)))) := (far_cell4 _ _ (Or.inr (by omega))).trans (KCA.out _ (by omega))
          have p0 : (w2.setCell ⟨kb, m.at_, none⟩ (.string s)).cell? ⟨wr.heap.size, 0, none⟩ = some (.int .i64 3) := (far_cell4 _ _ (Or.inl (by have := KBT.out; omega))).trans d0
          have i1 : (0 : Int) ≤ m.at_ := by omega
          have i2 : (m.at_ : Int) < m.ks.length := by omega
          have e2 : IntKind.i64.wrap ((m.at_ : Int) + 1) = ((m.at_ + 1 : Nat) : Int) := by rw [IntWalk.i64_in _ (by omega)]; omega
          have i3 : (0 : Int) ≤ ((m.at_ + 1 : Nat) : Int) := by omega
          have i4 : ((m.at_ + 1 : Nat) : Int) < m.ks.length := by omega
          go_upto_region 21 with fail
          clear kk kf k2 p0 k0'
          generalize w2.setCell ⟨kb, m.at_, none⟩ (.string s) = w3 at TX OX ⊢
          have SX : Hid (hStep m (3, s) = _) := hStep3b rfl hz.out
          clear KCA KFA KB KBT T2 O2 d0 d1 
          go_wp2_with (first
            | (at_builtin; refine wpList_append1_at rfl _ _ 34 9 9 (.string ByteArray.empty) _ 16 rfl Try.underlying34 info_s4 rfl w.heap.size _ ts.length _ rfl TX.out.t rfl rfl (by have := L1.out; omega) (by have := L1.out; omega) OX.out.size ?_; intro v' w5 hown1 hg1 hv1; obtain ⟨tb', tc', rfl, hat⟩ := hv1; have TY := Lib.hid (TX.out.text hown1 hg1 hat); have OY := Lib.hid (OX.out.own (Nat.le_refl _) TX.out.t hg1); clear hown1 hg1 hat TX OX)
            | (at_builtin; refine wpList_append1_at rfl _ _ 40 4 4 (.bool false) _ 1 rfl Try.underlying40 info_b4 rfl w.heap.size _ bs.length _ rfl TY.out.c rfl rfl (by have := L2.out; omega) (by have := L2.out; omega) OY.out.size ?_; intro v' w6 hown1 hg1 hv1; obtain ⟨cb', cc', rfl, hat⟩ := hv1; have TZ := Lib.hid (TY.out.chg hown1 hg1 hat); have OZ := Lib.hid (OY.out.own (Nat.le_refl _) TY.out.c hg1); clear hown1 hg1 hat TY OY))
          go_roundw
          case rel =>
            have tz := TZ.out
            have e := NX.out
            rw [SX.out] at e
            have e1 := congrArg (fun z => z.1) e
            have e2 := congrArg (fun z => z.2.1) e
            have e3 := congrArg (fun z => z.2.2) e
            dsimp only at e1 e2 e3
            have ea := congrArg HM.at_ e1
            try dsimp only at ea
            rw [← e2, ← e3] at tz
            refine ⟨k + 1, by omega, by go_num, ?_, ?_, OZ.out⟩
            · rw [ea]; try first | rfl | (simp; done) | (simp; omega) | go_num
            · rw [e1]; exact tz
          case measure => simp [intOf]; omega
      · subst k1
        go_upto_region 21 with (first
          | (at_builtin; refine wpList_append_row rfl _ _ 34 9 (.string ByteArray.empty) 16 rfl Try.underlying34 info_s4 rfl w2.heap.size (.slice (some ⟨w2.heap.size, 0, none⟩) 0 0) 0 [] rfl (own_empty w2 9) w.heap.size _ m.hs.length _ rfl (own_old T2.out.a (Old.alloc w2 _)) (strs_one _) (by first | omega | (simp; omega)) (by first | omega | (simp; omega)) (by simp) ?_; intro kv1 w7 hown1 hg1 hat1; simp only [Nat.zero_add, List.nil_append] at hown1; have R1 := Lib.hid hown1; have G1 : Hid (Old w2 w7) := (Old.alloc w2 _).grown hg1 (fun q hq => Nat.le_of_eq (by simpa [Value.ownBlock] using hq)); clear hown1 hg1 hat1)
          | (at_builtin; refine wpList_append1_at rfl _ _ 34 9 9 (.string ByteArray.empty) _ 16 rfl Try.underlying34 info_s4 rfl w2.heap.size _ m.hs.length _ rfl R1.out rfl rfl (by first | omega | (simp; omega)) (by first | omega | (simp; omega)) G1.out.size ?_; intro v' w8 hown1 hg1 hv1; obtain ⟨kb', kc', rfl, hat⟩ := hv1; have R2 := Lib.hid hown1; have G2 := Lib.hid (G1.out.own (Nat.le_refl _) R1.out hg1); clear hown1 hg1 hat))
        have TX := Lib.hid (T2.out.keep (ks := m.hs ++ [⟨#[]⟩]) (at_ := m.hs.length) (n := m.hs.length + 1) G2.out (by simp) O2.out.size (by simpa using R2.out))
        have OX := Lib.hid (O2.out.trans G2.out)
        have SX : Hid (hStep m (4, s) = _) := hStep4 rfl
        clear KCA KFA KB KBT T2 O2 d0 d1 R1 G1 R2 G2
        go_wp2_with (first
          | (at_builtin; refine wpList_append1_at rfl _ _ 34 9 9 (.string ByteArray.empty) _ 16 rfl Try.underlying34 info_s4 rfl w.heap.size _ ts.length _ rfl TX.out.t rfl rfl (by have := L1.out; omega) (by have := L1.out; omega) OX.out.size ?_; intro v' w5 hown1 hg1 hv1; obtain ⟨tb', tc', rfl, hat⟩ := hv1; have TY := Lib.hid (TX.out.text hown1 hg1 hat); have OY := Lib.hid (OX.out.own (Nat.le_refl _) TX.out.t hg1); clear hown1 hg1 hat TX OX)
          | (at_builtin; refine wpList_append1_at rfl _ _ 40 4 4 (.bool false) _ 1 rfl Try.underlying40 info_b4 rfl w.heap.size _ bs.length _ rfl TY.out.c rfl rfl (by have := L2.out; omega) (by have := L2.out; omega) OY.out.size ?_; intro v' w6 hown1 hg1 hv1; obtain ⟨cb', cc', rfl, hat⟩ := hv1; have TZ := Lib.hid (TY.out.chg hown1 hg1 hat); have OZ := Lib.hid (OY.out.own (Nat.le_refl _) TY.out.c hg1); clear hown1 hg1 hat TY OY))
        go_roundw
        case rel =>
          have tz := TZ.out
          have e := NX.out
          rw [SX.out] at e
          have e1 := congrArg (fun z => z.1) e
          have e2 := congrArg (fun z => z.2.1) e
          have e3 := congrArg (fun z => z.2.2) e
          dsimp only at e1 e2 e3
          have ea := congrArg HM.at_ e1
          try dsimp only at ea
          rw [← e2, ← e3] at tz
          refine ⟨k + 1, by omega, by go_num, ?_, ?_, OZ.out⟩
          · rw [ea]; try first | rfl | (simp; done) | (simp; omega) | go_num
          · rw [e1]; exact tz
        case measure => simp [intOf]; omega
    · have hkn' : k = l.length := by omega
      subst hkn'
      rw [List.take_length] at hts
      have TT := Lib.hid hts
      have OO := Lib.hid hold
      clear hts hold
      go_wp2_with fail
      go_ret2
      exact ⟨_, _, rfl, OO.out, TT.out.t, TT.out.c⟩
end Go.Proofs.Ytbkdppfjmfepiaa
