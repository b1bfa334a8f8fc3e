/- readline: Segments, SegmentComplete.Do. -/
import Derived.Test.YtalkikljjffpmaaDoorSeg1
import Derived.Deep.AppendLies
namespace Go.Proofs.YtalkikljjffpmaaDoor
open Go.RowKit
set_option linter.unusedVariables false
set_option linter.unusedSimpArgs false
set_option linter.unnecessarySimpa false
set_option maxRecDepth 100000

theorem sac_any (v : Value) (w : World) : Calls Tryd.prog 53 #[.iface 101 v] w fun e w' => e = .returned (.pointer (some ⟨w.heap.size, 0, none⟩)) ∧ w' = w.alloc (.cells #[.iface 101 v] 106) := by
  go_enter Tryd.func53, Tryd.ntmps53
  go_wp2_with fail
  go_ret
  exact ⟨rfl, rfl⟩
theorem segs_any (v : Value) (w : World) (hv : ∃ ad n c, v = .slice ad n c) : Calls Tryd.prog 29 #[v] w fun e w' => e = .returned (.pointer (some ⟨w.heap.size, 0, none⟩)) ∧ w' = w.alloc (.cells #[.iface 101 v] 106) := by
  obtain ⟨ad, n, c, rfl⟩ := hv
  go_enter Tryd.func29, Tryd.ntmps29
  go_wp2_with (go_at_call 53; refine (sac_any _ _).mono ?_; rintro e w' ⟨rfl, rfl⟩)
  go_ret
  exact ⟨rfl, rfl⟩
theorem nil_ds (ad : Option Addr) (n c : Nat) (w : World) : (nilAhead 327 101 (.slice ad n c) "DoSegment").run Tryd.prog w = .ok (some false) w := by kernel_rfl
theorem meth_ds (ad : Option Addr) (n c : Nat) (w : World) : (method 327 101 (.slice ad n c) "DoSegment").run Tryd.prog w = .ok (174, .slice ad n c) w := by kernel_rfl
/-- An own row, one element of which is stored anew. -/
theorem own_put {w : World} {base : Nat} {e : TypeId} {n : Nat} {xs : List Value} {b c : Nat} (h : w.ownsRow base e 1 (.slice (some ⟨b, 0, none⟩) n c) n xs) (k : Nat) (v : Value) :
    (w.setCell ⟨b, k, none⟩ v).ownsRow base e 1 (.slice (some ⟨b, 0, none⟩) n c) n (xs.set k v) := by
  refine ⟨by simp [h.1], ?_⟩
  rcases h.2 with ⟨hv, _⟩ | ⟨g, cap, cur, hv, h1, h2, h3, h4, h5, h6⟩
  · cases hv
  · injection hv with hv1 hv2 hv3
    injection hv1 with hv1
    injection hv1 with hv1
    subst hv1; subst hv3
    refine .inr ⟨b, c, cur.setIfInBounds k v, rfl, h1, ?_, h3, h4, by simp [h5], ?_⟩
    · unfold World.setCell
      simp [Array.getElem?_modify, h2]
    · rw [Array.toList_setIfInBounds, List.take_set, h6]
theorem own_open {w : World} {base : Nat} {e : TypeId} {n : Nat} {xs : List Value} {b c : Nat} (h : w.ownsRow base e 1 (.slice (some ⟨b, 0, none⟩) n c) n xs) (k : Nat) : w.frozen? ⟨b, k, none⟩ = false := by
  rcases h.2 with ⟨hv, _⟩ | ⟨g, cap, cur, hv, h1, h2, _⟩
  · cases hv
  · injection hv with hv1 hv2 hv3
    injection hv1 with hv1
    injection hv1 with hv1
    subst hv1
    unfold World.frozen?
    rw [h2]; simp
theorem SegI.put {w w1 : World} {B1 B2 g c j b' : Nat} {u : Value} {us : List Value} {Q : List (List Int × Nat)} {l : List Int} (h : SegI w B1 B2 (.slice (some ⟨g, 0, none⟩) Q.length c) us Q) (hj : j < Q.length)
    (rc : RC w1 21 u l b') (hb : b' = Q[j].2 ∨ w.heap.size ≤ b') (gr : w.grownBy w1 (some Q[j].2)) (hB : B2 ≤ w.heap.size) :
    SegI (w1.setCell ⟨g, j, none⟩ u) B1 B2 (.slice (some ⟨g, 0, none⟩) (Q.set j (l, b')).length c) (us.set j u) (Q.set j (l, b')) := by
  obtain ⟨h1, h2, h3, h4⟩ := h
  have hul := h2.1
  have hg := own_inside h1 g rfl
  have hlt := fun i (hi : i < Q.length) => (h2.2 i hi).lt
  have hne := fun i (hi : i < Q.length) => (h4 _ (List.getElem_mem hi)).2
  have hgne : ∀ i (hi : i < Q.length), Q[i].2 ≠ g := fun i hi e => hne i hi (by rw [e]; rfl)
  have hb'g : b' ≠ g := by
    rcases hb with rfl | hb
    · exact hgne j hj
    · omega
  have hd : ∀ i (hi : i < Q.length), i ≠ j → Q[i].2 ≠ Q[j].2 := fun i hi hij e => by
    have hp := List.pairwise_iff_getElem.1 h3
    rcases Nat.lt_or_gt_of_ne hij with hl | hl
    · exact hp i j (by simpa using hi) (by simpa using hj) hl (by simpa using e)
    · exact hp j i (by simpa using hj) (by simpa using hi) hl (by simpa using e.symm)
  have hd' : ∀ i (hi : i < Q.length), i ≠ j → Q[i].2 ≠ b' := fun i hi hij e => by
    rcases hb with rfl | hb
    · exact hd i hi hij e
    · have := hlt i hi; omega
  have own1 : w1.ownsRow B1 58 1 (.slice (some ⟨g, 0, none⟩) Q.length c) Q.length us := own_grown h1 gr fun q e1 e2 => by
    have e1' : g = q := by simpa [Value.ownBlock] using e1
    have e2' : Q[j].2 = q := by simpa using e2
    exact hgne j hj (e2'.trans e1'.symm)
  refine ⟨by simpa using own_put own1 j u, ⟨by simp [hul], fun i hi => ?_⟩, ?_, fun q hq => ?_⟩
  · have hi' : i < Q.length := by simpa using hi
    rw [gv_set (by omega)]
    by_cases e : i = j
    · subst e
      rw [if_pos rfl]
      simpa using rc.far hb'g
    · rw [if_neg e]
      have := ((h2.2 i hi').keep (gr.block _ (hlt i hi') (by simpa using hd i hi' e))).far (j := j) (v := u) (hgne i hi')
      rw [List.getElem_set_ne (by omega)]
      exact this
  · rw [List.map_set]
    refine List.pairwise_iff_getElem.2 fun i k hi hk hik => ?_
    simp at hi hk
    rw [List.getElem_set, List.getElem_set]
    simp only [List.getElem_map]
    by_cases e1 : j = i
    · rw [if_pos e1, if_neg (by omega)]; exact fun e => hd' k hk (by omega) e.symm
    · rw [if_neg e1]
      by_cases e2 : j = k
      · rw [if_pos e2]; exact hd' i hi (by omega)
      · rw [if_neg e2]
        have := List.pairwise_iff_getElem.1 h3 i k (by simpa using hi) (by simpa using hk) hik
        simpa using this
  · obtain ⟨i, hi, rfl⟩ := List.getElem_of_mem hq
    have hi' : i < Q.length := by simpa using hi
    rw [List.getElem_set]
    by_cases e : j = i
    · rw [if_pos e]
      refine ⟨?_, by simpa [Value.ownBlock] using hb'g⟩
      rcases hb with rfl | hb
      · exact (h4 _ (List.getElem_mem hj)).1
      · simp only; omega
    · rw [if_neg e]; exact h4 _ (List.getElem_mem hi')
/-- The last part. -/
def lastP (l : List Int) (n : Nat) : List Int := part l ((cutsTo l n).2, n)
theorem lastP_len {l : List Int} {n : Nat} (h : n ≤ l.length) : (lastP l n).length = n - (cutsTo l n).2 := length_part h (cutsTo_le l n)
/-- What is left, with a blank behind, of those texts that begin with p. -/
def outS (L : List (List Int)) (p : List Int) : List (List Int) := (L.filter (fun x => preB x p)).map (fun x => x.drop p.length ++ [32])
theorem outS_retQ {Q : List (List Int × Nat)} {L : List (List Int)} (h : Q.map Prod.fst = L) (p : List Int) : (retQ p Q).map (fun q => q.1 ++ [32]) = outS L p := by
  subst h
  unfold retQ outS
  rw [List.map_map, List.filter_map, List.map_map]; rfl
theorem texts_step {R Q : List (List Int × Nat)} {k : Nat} {b : Nat} (hk : k < R.length) (h : Q.map Prod.fst = (R.take k).map (fun q => q.1 ++ [32]) ++ (R.drop k).map Prod.fst) :
    (Q.set k (R[k].1 ++ [32], b)).map Prod.fst = (R.take (k + 1)).map (fun q => q.1 ++ [32]) ++ (R.drop (k + 1)).map Prod.fst := by
  rw [List.map_set, h, List.drop_eq_getElem_cons hk, List.take_succ_eq_append_getElem hk, List.map_append, List.map_cons, List.set_append_right _ _ (by simp; omega)]
  have : k - ((R.take k).map (fun q => q.1 ++ [32])).length = 0 := by simp; omega
  rw [this]; simp
theorem texts_at {R Q : List (List Int × Nat)} {k : Nat} (hk : k < R.length) (hq : k < Q.length) (h : Q.map Prod.fst = (R.take k).map (fun q => q.1 ++ [32]) ++ (R.drop k).map Prod.fst) : Q[k].1 = R[k].1 := by
  have h1 : (Q.map Prod.fst)[k]? = some Q[k].1 := by simp [hq]
  rw [h, List.getElem?_append_right (by simp; omega)] at h1
  have : k - ((R.take k).map (fun q => q.1 ++ [32])).length = 0 := by simp; omega
  rw [this, List.getElem?_map, List.getElem?_drop, Nat.add_zero, List.getElem?_eq_getElem hk] at h1
  simpa using h1.symm
def DoEnd (L : List (List Int)) (l : List Int) (n : Nat) (w : World) (e : Ending) (w' : World) : Prop :=
  ∃ rv us Q B1 B2, e = .returned (.tuple #[rv, .int .i64 ((lastP l n).length : Int)]) ∧ Old w w' ∧ SegI w' B1 B2 rv us Q ∧ Q.map Prod.fst = outS L (lastP l n) ∧ w.heap.size ≤ B1 ∧ w.heap.size ≤ B2
theorem do_any (p : Nat) (fv lv : Value) (L : List (List Int)) (l : List Int) (n : Nat) (w : World) (hp : w.cell? ⟨p, 0, none⟩ = some (.iface 101 fv)) (hf : RowR w fv L) (hl : RunesAt w lv l) (h1 : ∀ l ∈ L, 1 ≤ l.length ∧ l.length ≤ 1000) (hL : L.length ≤ 1000) (hn : n ≤ l.length) (hb : l.length ≤ 300) :
    Calls Tryd.prog 30 #[.pointer (some ⟨p, 0, none⟩), lv, .int .i64 n] w (DoEnd L l n w) := by
  have hmeth := meth_ds
  have hnil := nil_ds
  have HF := Lib.hid hf
  have HL := Lib.hid hl
  have H1 := Lib.hid h1
  have hpl := World.block_lt_of_cell? w _ hp
  obtain ⟨fad, fc, rfl, -⟩ := hf
  obtain ⟨lb, lo, lc, rfl, l1, l2, l3, -⟩ := hl
  have ST := Lib.hid (split_any _ l n w HL.out hn hb)
  clear h1
  go_enter Tryd.func30, Tryd.ntmps30
  go_upto_region 2 with (go_at_call 54; refine ST.out.mono ?_; rintro e w1 ⟨sv, rfl, o1, s1⟩; have O1 := Lib.hid o1; have S1 := Lib.hid s1; have d1 := (o1.cell (o := 0) hpl).trans hp; have HF1 := Lib.hid (HF.out.old o1); have HZ01 := Lib.hid o1.size; obtain ⟨sb, scc, sxs, rfl, -⟩ := s1; clear o1)
  clear hp
  go_upto_region 3 with (go_at_call 174; refine (ds_any _ _ _ L _ HF1.out H1.out hL).mono ?_; rintro e w2 ⟨ov, us, Q, rfl, o2, s2, q2⟩; have O2 := Lib.hid (O1.out.trans o2); have S2 := Lib.hid s2; have Q2 := Lib.hid q2; have SS2 := Lib.hid (S1.out.later o2); have HZ12 := Lib.hid o2.size; clear o2 s2 q2)
  have CL := length_cuts l n
  have hlast : ((cuts l n).map (part l))[((cuts l n).map (part l)).length - 1]'(by simp; omega) = lastP l n := by
    unfold lastP cuts; simp
  have LP := lastP_len hn
  have RT := Lib.hid (ret_any (.slice (some ⟨sb, 0, none⟩) (cuts l n).length scc) ov ((cuts l n).map (part l)) (lastP l n) Q us w1.heap.size w1.heap.size ((n - (cutsTo l n).2 : Nat) : Int) w2 (by have := SS2.out; simpa only [List.length_map] using this) (by simp; omega) (by simp; omega) hlast S2.out (by omega) (by
    intro q hq
    have : q.1 ∈ L := by rw [← Q2.out]; exact List.mem_map_of_mem hq
    exact (H1.out _ this).2) (by have := congrArg List.length Q2.out; simp at this; omega))
  have HLP := Lib.hid LP
  clear hlast LP CL
  go_upto_region 4 with (go_at_call 55; refine RT.out.mono ?_; rintro e w3 ⟨rv, us3, rfl, o3, s3⟩; have O3 := Lib.hid (O2.out.trans o3); have S3 := Lib.hid s3; have hz2 := o3.size; clear o3 s3)
  have HO := Lib.hid (outS_retQ Q2.out (lastP l n))
  have HRL : Hid ((retQ (lastP l n) Q).length ≤ 1000 ∧ ∀ q ∈ retQ (lastP l n) Q, q.1.length ≤ 1000) := by
    refine ⟨Nat.le_trans (retQ_len _ _) (by have := congrArg List.length Q2.out; simp at this; omega), fun q hq => ?_⟩
    unfold retQ at hq
    obtain ⟨x, hx, rfl⟩ := List.mem_map.1 hq
    have : x.1 ∈ L := by rw [← Q2.out]; exact List.mem_map_of_mem (List.mem_filter.1 hx).1
    have := (H1.out _ this).2
    simp; omega
  have hz1 := HZ12.out
  have hz0 := HZ01.out
  generalize retQ (lastP l n) Q = R at S3 HO HRL
  have hcl : ∃ cc ad, rv = .slice ad R.length cc := by
    rcases S3.out.1.2 with ⟨rfl, h0⟩ | ⟨g, cap, cur, rfl, _⟩
    · exact ⟨0, none, by rw [h0]⟩
    · exact ⟨_, _, rfl⟩
  obtain ⟨cc, ad, rfl⟩ := hcl
  obtain ⟨hR1, hR2⟩ := HRL.out
  have HR2 := Lib.hid hR2
  clear hR2 HRL
  go_wp2_with fail
  go_loopw [34] (fun iv wr => ∃ k us Qk, k ≤ R.length ∧ iv = .int .i64 ((k : Nat) : Int) ∧ SegI wr w2.heap.size w1.heap.size (.slice ad R.length cc) us Qk ∧ Qk.map Prod.fst = (R.take k).map (fun q => q.1 ++ [32]) ++ (R.drop k).map Prod.fst ∧ Old w wr) (fun iv _ => R.length - (intOf iv).toNat)
  case atStart => exact ⟨0, us3, R, Nat.zero_le _, rfl, S3.out, by simp, O3.out⟩
  case round =>
    obtain ⟨k, us4, Qk, hk, rfl, hs, hq, hold⟩ := hrel
    have SS := Lib.hid hs
    have HQ := Lib.hid hq
    have OO := Lib.hid hold
    have hql : Qk.length = R.length := by have := congrArg List.length hq; simp at this; omega
    have HQL := Lib.hid hql
    clear hs hq hold
    by_cases hkn : k < R.length
    · have hkq : k < Qk.length := by omega
      obtain ⟨g, cg, hgv⟩ := own_some SS.out.1 (by omega)
      injection hgv with f1 f2 f3
      subst f1 f3
      clear f2
      have hs1 := SS.out
      rw [← hql] at hs1
      have S1' := Lib.hid hs1
      have c1 := own_cell hs1.1 k hkq
      have fz := own_open hs1.1 k
      have rc := hs1.2.1.2 k hkq
      have hg := own_inside hs1.1 g rfl
      clear hs1
      have hne := (SS.out.2.2.2 _ (List.getElem_mem hkq))
      rw [texts_at hkn hkq HQ.out] at rc
      have hlen := HR2.out _ (List.getElem_mem hkn)
      have TS := fun b => texts_step (b := b) hkn HQ.out
      obtain ⟨t, ht⟩ : ∃ t, t = R[k].1 := ⟨_, rfl⟩
      rw [← ht] at rc hlen TS
      have TS' := Lib.hid TS
      have HNE := Lib.hid hne
      generalize gv us4 k = u at c1 rc
      have RC1 := Lib.hid rc
      obtain ⟨o1, c1', cur1, rfl, z1, z2, z3, z4, -⟩ := rc
      clear ht TS hql z1 hne
      unfold maxLen at z4
      go_wp2_with (at_builtin; refine wpList_append_rc rfl (Operand.tmp 42) (Operand.tmp 43) 58 21 _ rfl Tryd.underlying58 info_r _ t Qk[k].2 rfl RC1.out 32 rfl (by omega) ?_
                   intro u' w5 b' rc5 hb5 gr5
                   have RC5 := Lib.hid rc5
                   have GR5 := Lib.hid gr5
                   have HB5 := Lib.hid hb5
                   have c5 := (gr5.cell_far ⟨g, k, none⟩ hg.2 (fun e => HNE.out.2 (by rw [← e]; rfl))).trans c1
                   have f5 := (gr5.frozen_far ⟨g, k, none⟩ hg.2 (fun e => HNE.out.2 (by rw [← e]; rfl))).trans fz
                   obtain ⟨o5, c5', cur5, rfl, -⟩ := rc5
                   clear gr5 hb5)
      have S6 := S1'.out.put hkq RC5.out HB5.out GR5.out (by have := OO.out.size; have := hg.1; have := hg.2; omega)
      rw [List.length_set, HQL.out] at S6
      have O6 := ((OO.out.grown GR5.out (fun q e => by have h1 := HNE.out.1; have e' : Qk[k].2 = q := Option.some.inj e; omega)).stored (p := ⟨g, k, none⟩) (by simp only; omega) (.slice (some ⟨b', o5, none⟩) (t ++ [32]).length c5'))
      have T6 := TS'.out b'
      have TL : (t ++ [32]).length = t.length + 1 := by simp
      rw [TL] at S6 O6
      have S7 := Lib.hid S6
      have O7 := Lib.hid O6
      have T7 := Lib.hid T6
      clear S6 O6 T6
      go_wp2_with fail
      go_roundw
      case rel => exact ⟨k + 1, _, _, by omega, by go_num, S7.out, T7.out, O7.out⟩
      case measure => simp [intOf]; omega
    · obtain rfl : k = R.length := by omega
      rw [List.take_length, List.drop_length, List.map_nil, List.append_nil, HO.out] at HQ
      go_wp2_with fail
      go_ret2
      exact ⟨_, us4, Qk, _, _, by rw [HLP.out]; rfl, OO.out, SS.out, HQ.out, by omega, by omega⟩
end Go.Proofs.YtalkikljjffpmaaDoor
