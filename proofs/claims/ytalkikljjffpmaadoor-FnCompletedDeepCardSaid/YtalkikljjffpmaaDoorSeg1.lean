/- readline: the completer of segments: fixed.DoSegment, RetSegment. -/
import Derived.Test.YtalkikljjffpmaaDoorRc
import Derived.Test.YtalkikljjffpmaaDoorPre
import Derived.Test.YtalkikljjffpmaaDoorRows4
import Derived.Test.YtalkikljjffpmaaDoorAppNew
import Derived.Test.YtalkikljjffpmaaDoorSplit
import Derived.Deep.Cut
namespace Go.Proofs.YtalkikljjffpmaaDoor
open Go.RowKit
set_option linter.unusedVariables false
set_option linter.unusedSimpArgs false
set_option linter.unnecessarySimpa false
set_option maxRecDepth 100000

theorem info_r : (Tryd.prog.info? 21).map (fun i => (i.zero, i.size, i.bytes)) = some (some (.int .i32 0), 1, 4) := by kernel_rfl
/-- v is a slice of slices of runes that reads ls (it may be nil). -/
def RowR (w : World) (v : Value) (ls : List (List Int)) : Prop :=
  ∃ ad c, v = .slice ad ls.length c ∧ ∀ j (h : j < ls.length), ∃ b o u, ad = some ⟨b, o, none⟩ ∧ b < w.heap.size ∧ w.cell? ⟨b, o + j, none⟩ = some u ∧ RunesAt w u ls[j]
theorem RowR.old {w w' : World} {v : Value} {ls : List (List Int)} (h : RowR w v ls) (o : Old w w') : RowR w' v ls := by
  obtain ⟨ad, c, e, h⟩ := h
  refine ⟨ad, c, e, fun j hj => ?_⟩
  obtain ⟨b, of, u, e1, hb, hc, hr⟩ := h j hj
  exact ⟨b, of, u, e1, Nat.lt_of_lt_of_le hb o.size, (o.cell hb).trans hc, hr.later o⟩
theorem RowR.at_ {w : World} {ad : Option Addr} {n c : Nat} {ls : List (List Int)} (h : RowR w (.slice ad n c) ls) {j : Nat} (hj : j < ls.length) : ∃ b o u, ad = some ⟨b, o, none⟩ ∧ b < w.heap.size ∧ w.cell? ⟨b, o + j, none⟩ = some u ∧ RunesAt w u ls[j] := by
  obtain ⟨ad', c', e, h⟩ := h
  injection e with e1 e2 e3
  subst e1
  exact h j hj
/-- ov is a row of the call's own, of slices of runes in blocks of their own. -/
def SegI (w : World) (B1 B2 : Nat) (ov : Value) (us : List Value) (Q : List (List Int × Nat)) : Prop :=
  w.ownsRow B1 58 1 ov Q.length us ∧ RQ w 21 us Q ∧ (Q.map Prod.snd).Nodup ∧ ∀ q ∈ Q, B2 ≤ q.2 ∧ some q.2 ≠ ov.ownBlock
theorem SegI.nil (w : World) (B1 B2 : Nat) : SegI w B1 B2 (.slice none 0 0) [] [] := ⟨own_nil1 _ _ _, RQ.nil _ _, by simp, fun q hq => by cases hq⟩
theorem SegI.old {w w' : World} {B1 B2 : Nat} {ov : Value} {us : List Value} {Q : List (List Int × Nat)} (h : SegI w B1 B2 ov us Q) (o : Old w w') : SegI w' B1 B2 ov us Q := ⟨own_old h.1 o, h.2.1.old o, h.2.2⟩
theorem SegI.snoc {w w1 w2 : World} {B1 B2 b c : Nat} {ov u : Value} {us : List Value} {Q : List (List Int × Nat)} {q : List Int × Nat} (h : SegI w B1 B2 ov us Q) (o1 : Old w w1) (rc : RC w1 21 u q.1 q.2) (fr : q.2 ∉ Q.map Prod.snd) (hne : some q.2 ≠ ov.ownBlock) (hB : B2 ≤ q.2)
    (own : w2.ownsRow B1 58 1 (.slice (some ⟨b, 0, none⟩) (Q.length + 1) c) (Q.length + 1) (us ++ [u])) (gr : w1.grownBy w2 ov.ownBlock) (hat : ov.ownBlock = some b ∨ w1.heap.size ≤ b) : SegI w2 B1 B2 (.slice (some ⟨b, 0, none⟩) (Q.length + 1) c) (us ++ [u]) (Q ++ [q]) := by
  have hlt := rc.lt
  obtain ⟨h1, h2, h3, h4⟩ := h
  have h2' := h2.old o1
  refine ⟨by simpa using own, RQ.snoc (h2'.keep fun p hp => ?_) (rc.keep (gr.block _ hlt hne)), ?_, fun p hp => ?_⟩
  · obtain ⟨j, hj, rfl⟩ := List.getElem_of_mem hp
    exact gr.block _ (h2'.2 j hj).lt (h4 _ (List.getElem_mem hj)).2
  · rw [List.map_append, List.nodup_append]
    exact ⟨h3, by simp, fun x hx y hy e => by simp at hy; subst hy; subst e; exact fr hx⟩
  · have key : p.2 < w1.heap.size ∧ B2 ≤ p.2 ∧ some p.2 ≠ ov.ownBlock := by
      rcases List.mem_append.1 hp with hp | hp
      · obtain ⟨j, hj, rfl⟩ := List.getElem_of_mem hp
        exact ⟨(h2'.2 j hj).lt, h4 _ (List.getElem_mem hj)⟩
      · simp at hp; subst hp; exact ⟨hlt, hB, hne⟩
    refine ⟨key.2.1, fun e => ?_⟩
    have e' : p.2 = b := by simpa [Value.ownBlock] using e
    rcases hat with h | h
    · rw [← e'] at h; exact key.2.2 h.symm
    · omega
theorem nodup_fresh {Q : List (List Int × Nat)} {w : World} {us : List Value} {b : Nat} (h : RQ w 21 us Q) (hb : w.heap.size ≤ b) : b ∉ Q.map Prod.snd := fun hm => by
  obtain ⟨q, hq, rfl⟩ := List.mem_map.1 hm
  obtain ⟨j, hj, rfl⟩ := List.getElem_of_mem hq
  have := (h.2 j hj).lt
  omega
theorem own_ne {w : World} {base sz n b : Nat} {e : TypeId} {v : Value} {xs : List Value} (h : w.ownsRow base e sz v n xs) (hb : w.heap.size ≤ b) : some b ≠ v.ownBlock := fun e => by
  have := (own_inside h b e.symm).2
  omega
theorem add_run {w : World} {bb oo : Nat} {l : List Int} (h : ∀ j, j < l.length → w.cell? ⟨bb, oo + j, none⟩ = some (.int .i32 (gi l j))) (hb : bb < w.heap.size) (O : Obj) : ∀ (j : Nat) u, (l.map (Value.int .i32))[j]? = some u → (w.alloc O).cell? ((⟨bb, oo, none⟩ : Addr).add j) = some u := fun j u hu => by
  have hj : j < l.length := by have := (List.getElem?_eq_some_iff.1 hu).1; simpa using this
  have hadd : (⟨bb, oo, none⟩ : Addr).add j = ⟨bb, oo + j, none⟩ := by unfold Addr.add; split <;> simp_all
  rw [hadd, (Old.alloc w O).cell hb, h j hj]
  rw [List.getElem?_map, List.getElem?_eq_getElem hj] at hu
  simp at hu
  rw [← hu, gi_lt hj]
theorem i32_one (l : List Int) : ∀ u ∈ l.map (Value.int .i32), u.oneCell' = true := fun u hu => by
  obtain ⟨x, _, rfl⟩ := List.mem_map.1 hu; rfl
/-- What DoSegment of a list hands back: the texts, in new blocks. -/
def DsEnd (L : List (List Int)) (w : World) (e : Ending) (w' : World) : Prop := ∃ ov us Q, e = .returned ov ∧ Old w w' ∧ SegI w' w.heap.size w.heap.size ov us Q ∧ Q.map Prod.fst = L
set_option maxHeartbeats 600000 in
theorem ds_any (v s : Value) (n : Int) (L : List (List Int)) (w : World) (hr : RowR w v L) (h1 : ∀ l ∈ L, 1 ≤ l.length ∧ l.length ≤ 1000) (hn : L.length ≤ 1000) :
    Calls Tryd.prog 174 #[v, s, .int .i64 n] w (DsEnd L w) := by
  have HR := Lib.hid hr
  have H1 := Lib.hid h1
  obtain ⟨ad, c, rfl, -⟩ := hr
  clear h1
  go_enter Tryd.func174, Tryd.ntmps174
  go_wp2_with fail
  go_loopw [7, 12] (fun ov iv wr => ∃ k us Q, k ≤ L.length ∧ iv = .int .i64 ((k : Nat) : Int) ∧ SegI wr w.heap.size w.heap.size ov us Q ∧ Q.map Prod.fst = L.take k ∧ Old w wr) (fun _ iv _ => L.length - (intOf iv).toNat)
  case atStart => exact ⟨0, [], [], Nat.zero_le _, rfl, SegI.nil _ _ _, rfl, Old.refl _⟩
  case round =>
    obtain ⟨k, us, Q, hk, rfl, hs, hq, hold⟩ := hrel
    have SS := Lib.hid hs
    have HQ := Lib.hid hq
    have OO := Lib.hid hold
    have hqk : Q.length = k := by have := congrArg List.length hq; simp at this; omega
    clear hs hq hold
    by_cases hkn : k < L.length
    · obtain ⟨b, o, u, rfl, hb, c1, r1⟩ := (HR.out.old OO.out).at_ hkn
      have hl := H1.out _ (List.getElem_mem hkn)
      have LT : Hid (L.take (k + 1) = L.take k ++ [L[k]]) := List.take_succ_eq_append_getElem hkn
      obtain ⟨l, hlk⟩ : ∃ l, l = L[k] := ⟨_, rfl⟩
      rw [← hlk] at r1 hl LT
      have R1 := Lib.hid r1
      obtain ⟨bb, oo, cc, rfl, q1, q2, q3, q4⟩ := r1
      have Q4 := Lib.hid q4
      obtain ⟨hl1, hl2⟩ := hl
      have HQK := Lib.hid hqk
      clear hlk q4 hqk
      obtain ⟨i0, hi0, hz0, hz1, hz2⟩ := info_parts1 info_r
      go_wp2_with (first
        | (at_builtin; refine wpList_append_own_at (wr.alloc (.cells #[] 21)) rfl (Operand.tmp 17) (Operand.tmp 18) 58 rfl wr.heap.size 21 i0 (.int .i32 0) 1 4 Tryd.underlying58 hi0 hz0 hz1 hz2 rfl (by decide) (.slice (some ⟨wr.heap.size, 0, none⟩) 0 0) 0 [] rfl (own_empty wr 21) ⟨bb, oo, none⟩ l.length cc (l.map (Value.int .i32)) rfl (by simp) (add_run Q4.out q3 _) (i32_one l) (by unfold maxLen; omega) (by omega) (by simp) ?_
           intro v1 w1 own1 gr1 _ _
           have o1 : Old wr w1 := Old.own (Old.alloc wr _) (Nat.le_refl _) (own_empty wr 21) gr1
           obtain ⟨b1, rc1, hb1⟩ := RC.of_own (by simpa using own1) (by omega)
           have O1 := Lib.hid o1
           have RC1 := Lib.hid rc1
           have tok1 : True := trivial
           obtain ⟨oo1, cc1, cur1, rfl, -⟩ := rc1
           clear own1 gr1 o1)
        | (at_builtin; have _t := tok1; refine wpList_append_new rfl (Operand.tmp 16) (Operand.tmp 20) 59 58 _ (.slice none 0 0) 1 24 rfl Tryd.underlying59 info_rs rfl (by decide) w.heap.size u7 Q.length us rfl (own_old SS.out.1 O1.out) 1 #[.slice (some ⟨b1, oo1, none⟩) l.length cc1] rfl (by decide) rfl (by intro z hz; simp at hz; subst hz; rfl) (by have := HQK.out; omega) (by have := HQK.out; omega) (OO.out.trans O1.out).size ?_
           intro v2 w2 own2 gr2 at2
           obtain ⟨b2, cc2, rfl, at2⟩ := at2
           have S2 : Hid (SegI w2 w.heap.size w.heap.size (.slice (some ⟨b2, 0, none⟩) (Q.length + 1) cc2) (us ++ [.slice (some ⟨b1, oo1, none⟩) l.length cc1]) (Q ++ [(l, b1)])) :=
             SS.out.snoc O1.out RC1.out (nodup_fresh SS.out.2.1 hb1) (own_ne SS.out.1 hb1) (Nat.le_trans OO.out.size hb1) own2 gr2 at2
           have O2 := Lib.hid (Old.own (OO.out.trans O1.out) (Nat.le_refl _) (own_old SS.out.1 O1.out) gr2)
           clear own2 gr2 at2 tok1))
      rw [HQK.out]
      go_roundw
      case rel => exact ⟨k + 1, _, _, by omega, by go_num, by rw [← HQK.out]; exact S2.out, by rw [List.map_append, HQ.out, LT.out]; rfl, O2.out⟩
      case measure => simp [intOf]; omega
    · obtain rfl : k = L.length := by omega
      rw [List.take_length] at HQ
      go_wp2_with fail
      go_ret
      exact ⟨_, us, Q, rfl, OO.out, SS.out, HQ.out⟩
/-- Those of the texts that begin with p, without it. -/
def retQ (p : List Int) (Q : List (List Int × Nat)) : List (List Int × Nat) := (Q.filter (fun q => preB q.1 p)).map (fun q => (q.1.drop p.length, q.2))
theorem retQ_snd (p : List Int) (Q : List (List Int × Nat)) : (retQ p Q).map Prod.snd = (Q.filter (fun q => preB q.1 p)).map Prod.snd := by
  unfold retQ; rw [List.map_map]; rfl
theorem retQ_in {p : List Int} {Q : List (List Int × Nat)} {b : Nat} (h : b ∈ (retQ p Q).map Prod.snd) : b ∈ Q.map Prod.snd := by
  rw [retQ_snd] at h
  obtain ⟨q, hq, rfl⟩ := List.mem_map.1 h
  exact List.mem_map.2 ⟨q, (List.mem_filter.1 hq).1, rfl⟩
theorem retQ_len (p : List Int) (Q : List (List Int × Nat)) : (retQ p Q).length ≤ Q.length := by
  unfold retQ; rw [List.length_map]; exact List.length_filter_le _ _
theorem retQ_yes {p : List Int} {Q : List (List Int × Nat)} {k : Nat} (h : k < Q.length) (hp : preB Q[k].1 p = true) : retQ p (Q.take (k + 1)) = retQ p (Q.take k) ++ [(Q[k].1.drop p.length, Q[k].2)] := by
  rw [List.take_succ_eq_append_getElem h]; unfold retQ; rw [List.filter_append]; simp [List.filter_cons, hp]
theorem retQ_no {p : List Int} {Q : List (List Int × Nat)} {k : Nat} (h : k < Q.length) (hp : preB Q[k].1 p = false) : retQ p (Q.take (k + 1)) = retQ p (Q.take k) := by
  rw [List.take_succ_eq_append_getElem h]; unfold retQ; rw [List.filter_append]; simp [List.filter_cons, hp]
theorem nodup_at {Q : List (List Int × Nat)} {k : Nat} (h : (Q.map Prod.snd).Nodup) (hk : k < Q.length) : Q[k].2 ∉ (Q.take k).map Prod.snd := fun hm => by
  have e : Q.map Prod.snd = (Q.take k ++ Q[k] :: Q.drop (k + 1)).map Prod.snd := by rw [← List.drop_eq_getElem_cons hk, List.take_append_drop]
  rw [List.map_append, List.map_cons] at e
  rw [e, List.nodup_append] at h
  exact h.2.2 _ hm _ (by simp) rfl
theorem SegsAt.at_ {w : World} {v : Value} {ls : List (List Int)} (h : SegsAt w v ls) : ∃ b c, v = .slice (some ⟨b, 0, none⟩) ls.length c ∧ b < w.heap.size ∧ ∀ j (hj : j < ls.length), ∃ u, w.cell? ⟨b, j, none⟩ = some u ∧ RunesAt w u ls[j] := by
  obtain ⟨b, c, xs, rfl, h1, h2, h3, h4, h5⟩ := h
  refine ⟨b, c, rfl, h3, fun j hj => ⟨_, h4 j hj, ?_⟩⟩
  have := h5.2 j hj
  simpa [List.getD, List.getElem?_eq_getElem hj] using this
set_option maxHeartbeats 600000 in
theorem ret_any (sv cv : Value) (S : List (List Int)) (p : List Int) (Q : List (List Int × Nat)) (us : List Value) (B1 B2 : Nat) (n : Int) (w : World) (hs : SegsAt w sv S) (hS : 0 < S.length) (hS2 : S.length ≤ 1000000) (hp : S[S.length - 1]'(by omega) = p) (hc : SegI w B1 B2 cv us Q)
    (hpl : p.length ≤ 1000) (hql : ∀ q ∈ Q, q.1.length ≤ 1000) (hQ : Q.length ≤ 1000) :
    Calls Tryd.prog 55 #[sv, cv, .int .i64 n] w fun e w' => ∃ rv us', e = .returned (.tuple #[rv, .int .i64 n]) ∧ Old w w' ∧ SegI w' w.heap.size B2 rv us' (retQ p Q) := by
  have HC := Lib.hid hc
  have HQL := Lib.hid hql
  obtain ⟨sb, sc, rfl, hsb, hsj⟩ := hs.at_
  obtain ⟨pv, cp, rp⟩ := hsj (S.length - 1) (by omega)
  rw [hp] at rp
  have RP := Lib.hid rp
  have CP := Lib.hid cp
  have HSB := Lib.hid hsb
  obtain ⟨pb, po, pc, rfl, p1, p2, p3, p4⟩ := rp
  have hcl : ∃ cc ad, cv = .slice ad Q.length cc := by
    rcases hc.1.2 with ⟨rfl, h0⟩ | ⟨g, cap, cur, rfl, _⟩
    · exact ⟨0, none, by rw [h0]⟩
    · exact ⟨_, _, rfl⟩
  obtain ⟨cc, ad, rfl⟩ := hcl
  obtain ⟨i0, hi0, hz0, hz1, hz2⟩ := info_parts1 info_rs
  have e1 : ((S.length : Int) - 1).toNat = S.length - 1 := by omega
  have e2 : (0 : Int) ≤ (S.length : Int) - 1 := by omega
  have e3 : (S.length : Int) - 1 < S.length := by omega
  clear hs hsj p4 hc hql hp
  go_enter Tryd.func55, Tryd.ntmps55
  go_upto_region 2 with (at_make; refine wpList_make_own _ rfl _ _ 59 rfl w.heap.size 58 i0 (.slice none 0 0) 1 Tryd.underlying59 hi0 hz0 hz1 _ _ _ Q.length rfl rfl rfl (by rw [hz2]; omega) (by unfold maxLen; omega) (Nat.le_refl _) ?_; intro w1 own1 gr1; have OW1 := Lib.hid own1; have o1 : Old w w1 := (Old.refl w).grown gr1 (by simp); have O1 := Lib.hid o1; have d1 := (o1.cell (o := S.length - 1) hsb).trans cp; clear own1 gr1 o1)
  clear cp
  go_wp2_with fail
  go_loopw [8, 23] (fun ov iv wr => ∃ k us', k ≤ Q.length ∧ iv = .int .i64 ((k : Nat) : Int) ∧ SegI wr w.heap.size B2 ov us' (retQ p (Q.take k)) ∧ Old w wr) (fun _ iv _ => Q.length - (intOf iv).toNat)
  case atStart => exact ⟨0, [], Nat.zero_le _, rfl, ⟨OW1.out, RQ.nil _ _, by simp [retQ], fun q hq => by simp [retQ] at hq⟩, O1.out⟩
  case round =>
    obtain ⟨k, us', hk, rfl, hs, hold⟩ := hrel
    have SS := Lib.hid hs
    have OO := Lib.hid hold
    have C2 := Lib.hid (HC.out.old hold)
    have RL := retQ_len p (Q.take k)
    rw [List.length_take] at RL
    clear hs hold
    by_cases hkn : k < Q.length
    · obtain ⟨g, cg, hgv⟩ := own_some C2.out.1 (by omega)
      injection hgv with f1 f2 f3
      subst f1 f3
      have c1 := own_cell C2.out.1 k hkn
      have rc := C2.out.2.1.2 k hkn
      have hql := HQL.out _ (List.getElem_mem hkn)
      have hB2 := (C2.out.2.2.2 _ (List.getElem_mem hkn)).1
      have hblt := (HC.out.2.1.2 k hkn).lt
      have ND := Lib.hid (nodup_at C2.out.2.2.1 hkn)
      have RY := fun h => retQ_yes (p := p) hkn h
      have RN := fun h => retQ_no (p := p) hkn h
      obtain ⟨l, hl⟩ : ∃ l, l = Q[k].1 := ⟨_, rfl⟩
      obtain ⟨bq, hbq⟩ : ∃ b, b = Q[k].2 := ⟨_, rfl⟩
      rw [← hl] at rc hql RY RN
      rw [← hbq] at rc hB2 ND RY hblt
      have FR : Hid (bq ∉ (retQ p (Q.take k)).map Prod.snd) := fun h => ND.out (retQ_in h)
      have NE : Hid (some bq ≠ u8.ownBlock) := fun e => by
        have := (own_inside SS.out.1 bq e.symm).1
        omega
      have RC1 := Lib.hid rc
      generalize gv us k = u at c1 rc RC1
      obtain ⟨o1, c1', cur1, rfl, z1, z2, z3, z4, -⟩ := rc
      have RP2 := Lib.hid (RP.out.later OO.out)
      clear hl hbq ND z1
      unfold maxLen at z4
      cases hpb : preB l p with
      | false =>
        have HN := Lib.hid (RN hpb)
        have HPB := Lib.hid hpb
        clear RY RN hpb
        go_wp2_with (go_at_call 84; refine (pre_any _ _ l p _ RC1.out.runes RP2.out (by omega) (by omega)).mono ?_; rw [HPB.out]; rintro e w2 ⟨rfl, o2⟩; have O2 := Lib.hid o2; clear o2)
        go_roundw
        case rel => exact ⟨k + 1, us', by omega, by go_num, by rw [HN.out]; exact SS.out.old O2.out, OO.out.trans O2.out⟩
        case measure => simp [intOf]; omega
      | true =>
        have HN := Lib.hid (RY hpb)
        have HPB := Lib.hid hpb
        have hple : p.length ≤ l.length := (of_decide_eq_true hpb).1
        clear RY RN hpb
        by_cases hpc : p.length < c1'
        · have hne : ¬ c1' = p.length := by omega
          go_wp2_with (first
            | (go_at_call 84; refine (pre_any _ _ l p _ RC1.out.runes RP2.out (by omega) (by omega)).mono ?_; rw [HPB.out]; rintro e w2 ⟨rfl, o2⟩; have O2 := Lib.hid o2; have S2 := Lib.hid (SS.out.old o2); have OO2 := Lib.hid (OO.out.trans o2); clear o2)
            | (at_builtin; refine wpList_append_new rfl (Operand.tmp 32) (Operand.tmp 37) 59 58 _ (.slice none 0 0) 1 24 rfl Tryd.underlying59 info_rs rfl (by decide) w.heap.size u8 (retQ p (Q.take k)).length us' rfl S2.out.1 1 #[.slice (some ⟨bq, o1 + p.length, none⟩) (l.length - p.length) (c1' - p.length)] rfl (by decide) rfl (by intro z hz; simp at hz; subst hz; rfl) (by omega) (by omega) OO2.out.size ?_
               intro v3 w3 own3 gr3 at3
               obtain ⟨b3, cc3, rfl, at3⟩ := at3
               have S3 : Hid (SegI w3 w.heap.size B2 (.slice (some ⟨b3, 0, none⟩) ((retQ p (Q.take k)).length + 1) cc3) (us' ++ [.slice (some ⟨bq, o1 + p.length, none⟩) (l.length - p.length) (c1' - p.length)]) (retQ p (Q.take k) ++ [(l.drop p.length, bq)])) :=
                 S2.out.snoc (Old.refl _) ((RC1.out.old O2.out).drop hple hpc) FR.out NE.out hB2 own3 gr3 at3
               have O3 := Lib.hid (Old.own OO2.out (Nat.le_refl _) S2.out.1 gr3)
               clear own3 gr3 at3))
          go_roundw
          case rel => exact ⟨k + 1, _, by omega, by go_num, by rw [HN.out]; exact S3.out, O3.out⟩
          case measure => simp [intOf]; omega
        · have hne : c1' = p.length := by omega
          subst hne
          go_wp2_with (first
            | (go_at_call 84; refine (pre_any _ _ l p _ RC1.out.runes RP2.out (by omega) (by omega)).mono ?_; rw [HPB.out]; rintro e w2 ⟨rfl, o2⟩; have O2 := Lib.hid o2; have S2 := Lib.hid (SS.out.old o2); have OO2 := Lib.hid (OO.out.trans o2); clear o2)
            | (at_builtin; refine wpList_append_new rfl (Operand.tmp 32) (Operand.tmp 37) 59 58 _ (.slice none 0 0) 1 24 rfl Tryd.underlying59 info_rs rfl (by decide) w.heap.size u8 (retQ p (Q.take k)).length us' rfl S2.out.1 1 #[.slice (some ⟨bq, o1, none⟩) 0 0] rfl (by decide) rfl (by intro z hz; simp at hz; subst hz; rfl) (by omega) (by omega) OO2.out.size ?_
               intro v3 w3 own3 gr3 at3
               obtain ⟨b3, cc3, rfl, at3⟩ := at3
               have S3 : Hid (SegI w3 w.heap.size B2 (.slice (some ⟨b3, 0, none⟩) ((retQ p (Q.take k)).length + 1) cc3) (us' ++ [.slice (some ⟨bq, o1, none⟩) 0 0]) (retQ p (Q.take k) ++ [(l.drop p.length, bq)])) :=
                 S2.out.snoc (Old.refl _) ((RC1.out.old O2.out).none (by omega)) FR.out NE.out hB2 own3 gr3 at3
               have O3 := Lib.hid (Old.own OO2.out (Nat.le_refl _) S2.out.1 gr3)
               clear own3 gr3 at3))
          go_roundw
          case rel => exact ⟨k + 1, _, by omega, by go_num, by rw [HN.out]; exact S3.out, O3.out⟩
          case measure => simp [intOf]; omega
    · obtain rfl : k = Q.length := by omega
      rw [List.take_length] at SS
      go_wp2_with fail
      go_ret2
      exact ⟨_, us', rfl, OO.out, SS.out⟩
end Go.Proofs.YtalkikljjffpmaaDoor
