/- The reference's suggestions in two columns: spec.Suggested. -/
import Derived.Test.YtalkikljjffpmaaCol
import Derived.Test.YtalkikljjffpmaaSgs
import Derived.Deep.RegionHeld3
import Derived.StillTailTactics
import Derived.Deep.AppendLies
namespace Go.Proofs.Ytalkikljjffpmaa
open Go.RowKit
set_option linter.unusedVariables false
set_option linter.unusedSimpArgs false
set_option linter.unnecessarySimpa false
set_option maxRecDepth 100000

section
variable {P : Program} {ops : Array Oper} {Q : Exit → Act → World → Prop} {o : Oper} {a : Act} {K : Act → World → Prop} {w : World} {E : Prop}
/-- An append of one element that lies in block g, within a region. -/
theorem step_append_src (hwant : Region.wanted o (yielded ops a.tmps) = true) (s x : Operand) (t e : TypeId) (z val : Value) (bytes : Nat)
    (ho : o.op = .call { callee := .builtin .append, args := #[s, x], argTypes := #[t, t] }) (ht : P.underlying t = some (.slice e))
    (hinfo : (P.info? e).map (fun i => (i.zero, i.size, i.bytes)) = some (some z, 1, bytes)) (hz : z.cells.size = 1)
    (base : Nat) (v : Value) (n : Nat) (xs : List Value) (hs : a.eval s = v) (hown : w.ownsRow base e 1 v n xs) (g : Nat)
    (hx : a.eval x = .slice (some ⟨g, 0, none⟩) 1 1) (hg : w.cell? ⟨g, 0, none⟩ = some val) (h1 : val.oneCell' = true) (hbytes : (n + 1) * bytes ≤ 140737488355328) (hn : n + 1 ≤ 140737488355328) (hbase : base ≤ w.heap.size)
    (h : ∀ v' w', w'.ownsRow base e 1 v' (n + 1) (xs ++ [val]) → w.grownBy w' v.ownBlock → (∃ b c, v' = .slice (some ⟨b, 0, none⟩) (n + 1) c ∧ (v.ownBlock = some b ∨ w.heap.size ≤ b)) → K (a.put o.dst v') w') :
    if Region.wanted o (yielded ops a.tmps) = true then Oper.wp P o a w K Q else E := by
  rw [if_pos hwant]
  obtain ⟨i, hi, hz0, hz1, hz2⟩ := info_parts1 hinfo
  have hc : ∀ (j : Nat) u, [val][j]? = some u → w.cell? ((⟨g, 0, none⟩ : Addr).add j) = some u := by
    intro j u hu
    have hj : j < [val].length := (List.getElem?_eq_some_iff.1 hu).1
    have hj0 : j = 0 := by simpa using hj
    subst hj0
    have hadd : (⟨g, 0, none⟩ : Addr).add 0 = ⟨g, 0, none⟩ := by unfold Addr.add; split <;> simp_all
    rw [hadd, hg]
    simpa using hu
  obtain ⟨v', w', hr, hown', hgrow, hnil, hat⟩ := run_append_own_at (P := P) w base t o.type e i z 1 bytes ht hi hz0 hz1 hz2 hz (by decide) v n xs hown ⟨g, 0, none⟩ 1 1 [val] rfl hc
    (by intro u hu; simp at hu; rw [hu]; exact h1) (by unfold maxLen; omega) hbytes hbase
  unfold Oper.wp execOp
  simp only [ho, resolve, invoke, builtin, Sem.run_bind, Sem.run_pure, Result.andThen_ok, List.map_toArray, List.map_cons, List.map_nil, hs, hx, hr]
  refine h v' w' hown' hgrow ?_
  rcases hown'.2 with ⟨hv', hm⟩ | ⟨g', cap, cur, hv', _⟩
  · omega
  · refine ⟨g', cap, hv', ?_⟩
    subst hv'
    rcases hat with h1 | h1
    · exact .inl h1.symm
    · right
      have : g' = w.heap.size := by simpa [Value.ownBlock] using h1
      rw [this]; exact Nat.le_refl _
/-- An append of m elements that lie in block g, within a region. -/
theorem step_append_srcs (hwant : Region.wanted o (yielded ops a.tmps) = true) (s x : Operand) (t e : TypeId) (z : Value) (sz bytes : Nat)
    (ho : o.op = .call { callee := .builtin .append, args := #[s, x], argTypes := #[t, t] }) (ht : P.underlying t = some (.slice e))
    (hinfo : (P.info? e).map (fun i => (i.zero, i.size, i.bytes)) = some (some z, sz, bytes)) (hz : z.cells.size = sz) (hsz : 0 < sz)
    (base : Nat) (v : Value) (n : Nat) (xs : List Value) (hs : a.eval s = v) (hown : w.ownsRow base e sz v n xs) (g m : Nat) (hm : 0 < m) (cs : List Value) (hcs : cs.length = m * sz)
    (hx : a.eval x = .slice (some ⟨g, 0, none⟩) m m) (hg : ∀ (j : Nat) u, cs[j]? = some u → w.cell? ⟨g, j, none⟩ = some u) (h1 : ∀ y ∈ cs, y.oneCell' = true) (hbytes : (n + m) * bytes ≤ 140737488355328) (hn : n + m ≤ 140737488355328) (hbase : base ≤ w.heap.size)
    (h : ∀ v' w', w'.ownsRow base e sz v' (n + m) (xs ++ cs) → w.grownBy w' v.ownBlock → (∃ b c, v' = .slice (some ⟨b, 0, none⟩) (n + m) c ∧ (v.ownBlock = some b ∨ w.heap.size ≤ b)) → K (a.put o.dst v') w') :
    if Region.wanted o (yielded ops a.tmps) = true then Oper.wp P o a w K Q else E := by
  rw [if_pos hwant]
  obtain ⟨i, hi, hz0, hz1, hz2⟩ : ∃ i, P.info? e = some i ∧ i.zero = some z ∧ i.size = sz ∧ i.bytes = bytes := by
    cases hi : P.info? e with
    | none => rw [hi] at hinfo; simp at hinfo
    | some i => rw [hi] at hinfo; simp at hinfo; exact ⟨i, rfl, hinfo.1, hinfo.2.1, hinfo.2.2⟩
  have hc : ∀ (j : Nat) u, cs[j]? = some u → w.cell? ((⟨g, 0, none⟩ : Addr).add j) = some u := by
    intro j u hu
    have hadd : (⟨g, 0, none⟩ : Addr).add j = ⟨g, j, none⟩ := by unfold Addr.add; split <;> simp_all
    rw [hadd]
    exact hg j u hu
  obtain ⟨v', w', hr, hown', hgrow, hnil, hat⟩ := run_append_own_at (P := P) w base t o.type e i z sz bytes ht hi hz0 hz1 hz2 hz hsz v n xs hown ⟨g, 0, none⟩ m m cs hcs hc
    h1 (by unfold maxLen; omega) hbytes hbase
  unfold Oper.wp execOp
  simp only [ho, resolve, invoke, builtin, Sem.run_bind, Sem.run_pure, Result.andThen_ok, List.map_toArray, List.map_cons, List.map_nil, hs, hx, hr]
  refine h v' w' hown' hgrow ?_
  rcases hown'.2 with ⟨hv', hm'⟩ | ⟨g', cap, cur, hv', _⟩
  · omega
  · refine ⟨g', cap, hv', ?_⟩
    subst hv'
    rcases hat with h1 | h1
    · exact .inl h1.symm
    · right
      have : g' = w.heap.size := by simpa [Value.ownBlock] using h1
      rw [this]; exact Nat.le_refl _
end
theorem box_2 (w : World) (x y : Value) (T : TypeId) : ∀ (j : Nat) u, [x, y][j]? = some u → (w.alloc (.cells #[x, y] T)).drew.cell? ⟨w.heap.size, j, none⟩ = some u := fun j u h => by
  show (w.alloc (.cells #[x, y] T)).cell? ⟨w.heap.size, j, none⟩ = some u
  rw [bcell4 (heap_alloc_new w _) j]
  simpa using h
theorem lefts_take {L : List (Bs × Bs)} {k : Nat} (h : k < L.length) : lineVs (lefts (L.take k)) ++ [.string (tx L[k].1)] = lineVs (lefts (L.take (k + 1))) := by
  unfold lefts; rw [List.take_succ_eq_append_getElem h, List.map_append, List.map_singleton, lineVs_snoc]
theorem rights_take {L : List (Bs × Bs)} {k : Nat} (h : k < L.length) : lineVs (rights (L.take k)) ++ [.string (tx L[k].2)] = lineVs (rights (L.take (k + 1))) := by
  unfold rights; rw [List.take_succ_eq_append_getElem h, List.map_append, List.map_singleton, lineVs_snoc]
theorem box_a (w : World) (v : Value) (T : TypeId) : (w.alloc (.cells #[v] T)).drew.cell? ⟨w.heap.size, 0, none⟩ = some v := by
  show (w.alloc (.cells #[v] T)).cell? ⟨w.heap.size, 0, none⟩ = some v
  exact (bcell4 (heap_alloc_new w _) 0).trans rfl
theorem box_b (w : World) (v : Value) (T : TypeId) (O : Obj) : ((w.alloc (.cells #[v] T)).alloc O).drew.cell? ⟨w.heap.size, 0, none⟩ = some v := by
  show ((w.alloc (.cells #[v] T)).alloc O).cell? ⟨w.heap.size, 0, none⟩ = some v
  exact ((Old.alloc (w.alloc (.cells #[v] T)) O).cell (by simp)).trans ((bcell4 (heap_alloc_new w _) 0).trans rfl)
theorem box_c (w : World) (v : Value) (T : TypeId) (O : Obj) : ((w.alloc O).alloc (.cells #[v] T)).drew.cell? ⟨w.heap.size + 1, 0, none⟩ = some v := by
  show ((w.alloc O).alloc (.cells #[v] T)).cell? ⟨w.heap.size + 1, 0, none⟩ = some v
  have h := heap_alloc_new (w.alloc O) (.cells #[v] T)
  have e : (w.alloc O).heap.size = w.heap.size + 1 := by simp
  rw [e] at h
  exact (bcell4 h 0).trans rfl
theorem box_d (w : World) (v : Value) (T : TypeId) : (w.alloc (.cells #[v] T)).cell? ⟨w.heap.size, 0, none⟩ = some v := (bcell4 (heap_alloc_new w _) 0).trans rfl
theorem far_b {w w1 : World} {v x y : Value} {T T' : TypeId} (gr : ((w.alloc (.cells #[x] T)).alloc (.cells #[y] T')).drew.grownBy w1 v.ownBlock) (NE : ∀ q, w.heap.size ≤ q → some q ≠ v.ownBlock) : w1.cell? ⟨w.heap.size + 1, 0, none⟩ = some y :=
  (gr.cell_far ⟨w.heap.size + 1, 0, none⟩ (by simp) (NE _ (by simp))).trans (box_c _ _ _ _)
theorem far_c {w w1 : World} {v x y : Value} {T T' : TypeId} (gr : ((w.alloc (.cells #[y] T)).alloc (.cells #[x] T')).drew.grownBy w1 v.ownBlock) (NE : ∀ q, w.heap.size ≤ q → some q ≠ v.ownBlock) : w1.cell? ⟨w.heap.size, 0, none⟩ = some y :=
  (gr.cell_far ⟨w.heap.size, 0, none⟩ (by simp; omega) (NE _ (Nat.le_refl _))).trans (box_b _ _ _ _)
theorem app_fact {w wr W w1 : World} {e : TypeId} {u u' : Value} {n n' : Nat} {xs ys : List Value} (oo : Old w wr) (ot : wr.ownsRow w.heap.size e 1 u n xs) (oa : wr.ownsRow w.heap.size e 1 u' n' ys) (ap : Ap u u') (ow : Old wr W) (gr : W.grownBy w1 u.ownBlock) :
    Old w w1 ∧ w1.ownsRow w.heap.size e 1 u' n' ys :=
  ⟨Old.own (oo.trans ow) (Nat.le_refl _) (own_old ot ow) gr, own_apart (own_old oa ow) gr ap⟩
set_option maxHeartbeats 4000000 in
theorem ssg_any (v : Value) (L : List (Bs × Bs)) (m : Int) (w : World) (hr : PR w v L) (hp : ∀ p ∈ L, prT p.1 ∧ prT p.2 ∧ p.1.length ≤ 100 ∧ p.2.length ≤ 100) (hn : L.length ≤ 1000) (hm1 : 0 ≤ m) (hm2 : m ≤ 500) :
    Calls Try.prog 6 #[v, .int .i64 m] w fun e w' => ∃ v', e = .returned (.tuple #[v', .int .i64 (fmN L m)]) ∧ Old w w' ∧ PR w' v' (fmT L m) := by
  have HR := Lib.hid hr
  have HP := Lib.hid hp
  obtain ⟨ad, c, rfl, h1, h2, -⟩ := hr
  clear hp
  go_enter Try.func6, Try.ntmps6
  go_wp2_with fail
  go_loopw [6, 7, 8] (fun tv av iv wr => ∃ k : Nat, k ≤ L.length ∧ iv = .int .i64 k ∧ wr.ownsRow w.heap.size 9 1 tv k (lineVs (lefts (L.take k))) ∧ wr.ownsRow w.heap.size 9 1 av k (lineVs (rights (L.take k))) ∧ Ap tv av ∧ Old w wr) (fun _ _ iv _ => L.length - (intOf iv).toNat)
  case atStart => exact ⟨0, Nat.zero_le _, rfl, own_nil1 _ _ _, own_nil1 _ _ _, Ap.nil _, Old.refl _⟩
  case round =>
    obtain ⟨k, hk, rfl, ht, ha, hap, hold⟩ := hrel
    have OT := Lib.hid ht
    have OA := Lib.hid ha
    have AP := Lib.hid hap
    have OO := Lib.hid hold
    clear ht ha hap hold
    by_cases hkn : k < L.length
    · obtain ⟨b, o, rfl, hb, c1, c2⟩ := HR.out.at_ hkn
      have d1 := (OO.out.cell (o := o + k * 2) hb).trans c1
      have d2 := (OO.out.cell (o := o + k * 2 + 1) hb).trans c2
      have LT := Lib.hid (lefts_take hkn)
      have RT := Lib.hid (rights_take hkn)
      have hbr : b < wr.heap.size := Nat.lt_of_lt_of_le hb OO.out.size
      have HB := Lib.hid hb
      generalize L[k].1 = x at c1 d1 LT
      generalize L[k].2 = y at c2 d2 RT
      have C1 := Lib.hid d1
      have C2 := Lib.hid d2
      have X1 := Lib.hid c1
      have X2 := Lib.hid c2
      have hsz := OO.out.size
      have NE : Hid (∀ q, wr.heap.size ≤ q → some q ≠ u6.ownBlock) := fun q hq e => by have := (own_inside OT.out q e.symm).2; omega
      clear c1 c2
      go_wp2_with fail
      go_region_held3 (fun w' => w'.cell? ⟨b, o + k * 2, none⟩ = some (.string (tx x)) ∧ w'.cell? ⟨b, o + k * 2 + 1, none⟩ = some (.string (tx y)))
        (first | exact ⟨d1, d2⟩ | exact ⟨e1, e2⟩ | exact ⟨g1, g2⟩ | go_keep)
        ((first
          | (refine step_append_src (by rfl) (Operand.tmp 21) (Operand.tmp 27) 34 9 (.string ByteArray.empty) (.string (tx x)) 16 (by rfl) Try.underlying34 info_str rfl w.heap.size u6 k (lineVs (lefts (L.take k))) (by rfl) ?_ wr.heap.size (by rfl) ?_ rfl ?_ ?_ ?_ ?_
             iterate 1 (exact own_old OT.out ((Old.alloc _ _).then_drew))
             iterate 1 (exact box_a _ _ _)
             iterate 2 omega
             iterate 1 (simp; omega)
             intro v' w1 own1 gr1 at1
             obtain ⟨b1, cc1, rfl, at1⟩ := at1
             have F1 := app_fact OO.out OT.out OA.out AP.out ((Old.alloc _ _).then_drew) gr1
             have P1 := Lib.hid own1
             have A1 := Lib.hid (Ap.grow (n' := k + 1) (c' := cc1) AP.out (own_old OA.out ((Old.alloc _ _).then_drew)) at1)
             have O1 := Lib.hid F1.1
             have B1 := Lib.hid F1.2
             have e1 := (F1.1.cell (o := o + k * 2) HB.out).trans X1.out
             have e2 := (F1.1.cell (o := o + k * 2 + 1) HB.out).trans X2.out
             clear own1 gr1 at1 F1)
          | (refine step_append_src (by rfl) (Operand.tmp 21) (Operand.tmp 27) 34 9 (.string ByteArray.empty) (.string (tx x)) 16 (by rfl) Try.underlying34 info_str rfl w.heap.size u6 k (lineVs (lefts (L.take k))) (by rfl) ?_ wr.heap.size (by rfl) ?_ rfl ?_ ?_ ?_ ?_
             iterate 1 (exact own_old OT.out (((Old.alloc _ _).then_alloc _).then_drew))
             iterate 1 (exact box_b _ _ _ _)
             iterate 2 omega
             iterate 1 (simp; omega)
             intro v' w1 own1 gr1 at1
             obtain ⟨b1, cc1, rfl, at1⟩ := at1
             have F1 := app_fact OO.out OT.out OA.out AP.out (((Old.alloc _ _).then_alloc _).then_drew) gr1
             have P1 := Lib.hid own1
             have A1 := Lib.hid (Ap.grow (n' := k + 1) (c' := cc1) AP.out (own_old OA.out (((Old.alloc _ _).then_alloc _).then_drew)) at1)
             have O1 := Lib.hid F1.1
             have B1 := Lib.hid F1.2
             have e1 := (F1.1.cell (o := o + k * 2) HB.out).trans X1.out
             have e2 := (F1.1.cell (o := o + k * 2 + 1) HB.out).trans X2.out
             have e3 := far_b gr1 NE.out
             have E3 := Lib.hid e3
             clear e3
             clear own1 gr1 at1 F1)
          | (refine step_append_src (by rfl) (Operand.tmp 21) (Operand.tmp 27) 34 9 (.string ByteArray.empty) (.string (tx x)) 16 (by rfl) Try.underlying34 info_str rfl w.heap.size u6 k (lineVs (lefts (L.take k))) (by rfl) ?_ (wr.heap.size + 1) (by rfl) ?_ rfl ?_ ?_ ?_ ?_
             iterate 1 (exact own_old OT.out (((Old.alloc _ _).then_alloc _).then_drew))
             iterate 1 (exact box_c _ _ _ _)
             iterate 2 omega
             iterate 1 (simp; omega)
             intro v' w1 own1 gr1 at1
             obtain ⟨b1, cc1, rfl, at1⟩ := at1
             have F1 := app_fact OO.out OT.out OA.out AP.out (((Old.alloc _ _).then_alloc _).then_drew) gr1
             have P1 := Lib.hid own1
             have A1 := Lib.hid (Ap.grow (n' := k + 1) (c' := cc1) AP.out (own_old OA.out (((Old.alloc _ _).then_alloc _).then_drew)) at1)
             have O1 := Lib.hid F1.1
             have B1 := Lib.hid F1.2
             have e1 := (F1.1.cell (o := o + k * 2) HB.out).trans X1.out
             have e2 := (F1.1.cell (o := o + k * 2 + 1) HB.out).trans X2.out
             have e3 := far_c gr1 NE.out
             have E3 := Lib.hid e3
             clear e3
             clear own1 gr1 at1 F1)
          | (refine step_append_src (by rfl) (Operand.tmp 29) (Operand.tmp 35) 34 9 (.string ByteArray.empty) (.string (tx y)) 16 (by rfl) Try.underlying34 info_str rfl w.heap.size u7 k (lineVs (rights (L.take k))) (by rfl) ?_ w1.heap.size (by rfl) ?_ rfl ?_ ?_ ?_ ?_
             iterate 1 (exact own_old B1.out (Old.alloc _ _))
             iterate 1 (exact box_d _ _ _)
             iterate 2 omega
             iterate 1 (have := O1.out.size; simp; omega)
             intro v' w2 own2 gr2 at2
             obtain ⟨b2, cc2, rfl, at2⟩ := at2
             have F2 := app_fact O1.out B1.out P1.out A1.out.symm (Old.alloc _ _) gr2
             have P2 := Lib.hid own2
             have A2 := Lib.hid (Ap.grow (n' := k + 1) (c' := cc2) A1.out.symm (own_old P1.out (Old.alloc _ _)) at2)
             have O2 := Lib.hid F2.1
             have B2 := Lib.hid F2.2
             have g1 := (F2.1.cell (o := o + k * 2) HB.out).trans X1.out
             have g2 := (F2.1.cell (o := o + k * 2 + 1) HB.out).trans X2.out
             clear own2 gr2 at2 F2)
          | (refine step_append_src (by rfl) (Operand.tmp 29) (Operand.tmp 35) 34 9 (.string ByteArray.empty) (.string (tx y)) 16 (by rfl) Try.underlying34 info_str rfl w.heap.size u7 k (lineVs (rights (L.take k))) (by rfl) ?_ (wr.heap.size + 1) (by rfl) ?_ rfl ?_ ?_ ?_ ?_
             iterate 1 (exact own_old B1.out (Old.refl _))
             iterate 1 (exact E3.out)
             iterate 2 omega
             iterate 1 (have := O1.out.size; simp; omega)
             intro v' w2 own2 gr2 at2
             obtain ⟨b2, cc2, rfl, at2⟩ := at2
             have F2 := app_fact O1.out B1.out P1.out A1.out.symm (Old.refl _) gr2
             have P2 := Lib.hid own2
             have A2 := Lib.hid (Ap.grow (n' := k + 1) (c' := cc2) A1.out.symm (own_old P1.out (Old.refl _)) at2)
             have O2 := Lib.hid F2.1
             have B2 := Lib.hid F2.2
             have g1 := (F2.1.cell (o := o + k * 2) HB.out).trans X1.out
             have g2 := (F2.1.cell (o := o + k * 2 + 1) HB.out).trans X2.out
             clear own2 gr2 at2 F2)
          | (refine step_append_src (by rfl) (Operand.tmp 29) (Operand.tmp 35) 34 9 (.string ByteArray.empty) (.string (tx y)) 16 (by rfl) Try.underlying34 info_str rfl w.heap.size u7 k (lineVs (rights (L.take k))) (by rfl) ?_ wr.heap.size (by rfl) ?_ rfl ?_ ?_ ?_ ?_
             iterate 1 (exact own_old B1.out (Old.refl _))
             iterate 1 (exact E3.out)
             iterate 2 omega
             iterate 1 (have := O1.out.size; simp; omega)
             intro v' w2 own2 gr2 at2
             obtain ⟨b2, cc2, rfl, at2⟩ := at2
             have F2 := app_fact O1.out B1.out P1.out A1.out.symm (Old.refl _) gr2
             have P2 := Lib.hid own2
             have A2 := Lib.hid (Ap.grow (n' := k + 1) (c' := cc2) A1.out.symm (own_old P1.out (Old.refl _)) at2)
             have O2 := Lib.hid F2.1
             have B2 := Lib.hid F2.2
             have g1 := (F2.1.cell (o := o + k * 2) HB.out).trans X1.out
             have g2 := (F2.1.cell (o := o + k * 2 + 1) HB.out).trans X2.out
             clear own2 gr2 at2 F2)))
      all_goals
        rw [LT.out] at B2
        rw [RT.out] at P2
        go_wp2_with fail
        go_roundw
        case rel => exact ⟨k + 1, by omega, by go_num, B2.out, P2.out, A2.out.symm, O2.out⟩
        case measure => simp [intOf]; omega
    · obtain rfl : k = L.length := by omega
      rw [List.take_length] at OT OA
      have LL : Hid ((lefts L).length = L.length) := by unfold Hid lefts; simp
      have LR : Hid ((rights L).length = L.length) := by unfold Hid rights; simp
      have FT1 := fun W h => col_any u6 (lefts L) m W h (fun l hl => by obtain ⟨p, hp, rfl⟩ := List.mem_map.1 hl; exact (HP.out p hp).1) (fun l hl => by obtain ⟨p, hp, rfl⟩ := List.mem_map.1 hl; exact (HP.out p hp).2.2.1) (by rw [LL.out]; exact hn) (by omega) (by omega)
      have FT2 := fun W m2 h (i1 : -1000 ≤ m2) (i2 : m2 ≤ 1000) => col_any u7 (rights L) m2 W h (fun l hl => by obtain ⟨p, hp, rfl⟩ := List.mem_map.1 hl; exact (HP.out p hp).2.1) (fun l hl => by obtain ⟨p, hp, rfl⟩ := List.mem_map.1 hl; exact (HP.out p hp).2.2.2) (by rw [LR.out]; exact hn) i1 i2
      rw [LL.out] at FT1
      rw [LR.out] at FT2
      have F1 := Lib.hid FT1
      have F2 := Lib.hid FT2
      clear FT1 FT2
      go_upto_region 7 with (go_at_call 10; refine (F1.out _ (SB.of_own OT.out)).mono ?_; rintro e w4 ⟨g4, rfl, o4, hg4, r4⟩; have R4 := Lib.hid r4; have O4 := Lib.hid (OO.out.trans o4); have G4 := Lib.hid (own_old OA.out o4); have HG4 := Lib.hid hg4; clear o4 hg4 r4)
      obtain ⟨j0, jm⟩ := colN_bd (lefts L) hm1
      by_cases hz : colN (lefts L) m = 0
      · have T0 : Hid (fmT L m = [] ∧ fmN L m = 0) := by unfold Hid fmT fmN; simp [hz]
        rw [hz]
        go_wp2_with fail
        go_ret2
        exact ⟨_, by rw [T0.out.2]; rfl, O4.out, by rw [T0.out.1]; exact ⟨none, 0, rfl, Nat.le_refl _, by unfold maxLen; omega, fun j hj => absurd hj (by simp)⟩⟩
      · have T1 : Hid (fmT L m = (colT (lefts L) m).zip (colT (rights L) (m - colN (lefts L) m)) ∧ fmN L m = colN (lefts L) m + colN (rights L) (m - colN (lefts L) m)) := by unfold Hid fmT fmN; simp [hz]
        have dz : (colN (lefts L) m == 0) = false := by simp; exact hz
        have LZ : Hid (((colT (lefts L) m).zip (colT (rights L) (m - colN (lefts L) m))).length = L.length) := by unfold Hid; rw [List.length_zip, colT_len, colT_len, LL.out, LR.out]; simp
        have ZG : Hid (∀ k (h : k < L.length) h1 h2 h3, ((colT (lefts L) m).zip (colT (rights L) (m - colN (lefts L) m)))[k]'h1 = ((colT (lefts L) m)[k]'h2, (colT (rights L) (m - colN (lefts L) m))[k]'h3)) := fun k h h1 h2 h3 => by simp
        have CA : Hid ((colT (lefts L) m).length = L.length) := by unfold Hid; rw [colT_len, LL.out]
        have CB : Hid ((colT (rights L) (m - colN (lefts L) m)).length = L.length) := by unfold Hid; rw [colT_len, LR.out]
        have k0 := colN_bd (rights L) (m := m - colN (lefts L) m) (by omega)
        go_upto_region 10 with (go_at_call 10; refine (F2.out _ (m - colN (lefts L) m) (SB.of_own G4.out) (by omega) (by omega)).mono ?_; rintro e w5 ⟨g5, rfl, o5, hg5, r5⟩; have R5 := Lib.hid r5; have O5 := Lib.hid (O4.out.trans o5); have L5 := Lib.hid (R4.out.old o5); have HG5 := Lib.hid hg5; clear o5 hg5 r5)
        generalize colN (rights L) (m - colN (lefts L) m) = nr at k0 T1 ⊢
        generalize colT (rights L) (m - colN (lefts L) m) = B at T1 LZ ZG CB R5 ⊢
        generalize colT (lefts L) m = A at T1 LZ ZG CA L5 R4 ⊢
        generalize colN (lefts L) m = nl at T1 j0 jm k0 dz hz ⊢
        generalize A.zip B = Z at T1 LZ ZG ⊢
        go_wp2_with fail
        go_loopw [13, 14] (fun ov iv wr3 => ∃ k : Nat, k ≤ L.length ∧ iv = .int .i64 k ∧ wr3.ownsRow w5.heap.size 26 2 ov k (pairVs (Z.take k)) ∧ Old w5 wr3) (fun _ iv _ => L.length - (intOf iv).toNat)
        case atStart => exact ⟨0, Nat.zero_le _, rfl, ⟨rfl, .inl ⟨rfl, rfl⟩⟩, Old.refl _⟩
        case round =>
          obtain ⟨k, hk, rfl, hq, hold⟩ := hrel
          have QA := Lib.hid hq
          have RA := Lib.hid (L5.out.old hold)
          have RB := Lib.hid (R5.out.old hold)
          have OA := Lib.hid hold
          have hsz := hold.size
          clear hq hold
          by_cases hkn : k < L.length
          · have ka : k < A.length := by rw [CA.out]; exact hkn
            have kb : k < B.length := by rw [CB.out]; exact hkn
            have kz : k < Z.length := by rw [LZ.out]; exact hkn
            have PT := Lib.hid (pairVs_take kz)
            rw [ZG.out k hkn kz ka kb] at PT
            have ca := RA.out.cell ka
            have cb := RB.out.cell kb
            have ca5 := L5.out.cell ka
            have cb5 := R5.out.cell kb
            generalize A[k] = x at ca ca5 PT
            generalize B[k] = y at cb cb5 PT
            have CA5 := Lib.hid ca5
            have CB5 := Lib.hid cb5
            clear ca5 cb5
            go_wp2_with fail
            have WA := Lib.hid (own_old QA.out ((Old.alloc wr (.cells #[.string (tx x), .string (tx y)] 26)).then_drew))
            have OD := Lib.hid (OA.out.trans ((Old.alloc wr (.cells #[.string (tx x), .string (tx y)] 26)).then_drew))
            have CA' := Lib.hid ca
            have CB' := Lib.hid cb
            go_region_held3 (fun w' => w'.cell? ⟨g4, k, none⟩ = some (.string (tx x)) ∧ w'.cell? ⟨g5, k, none⟩ = some (.string (tx y)))
              (first | exact ⟨ca, cb⟩ | exact ⟨g1, g2⟩ | go_keep)
              ((first
                | (refine step_append_srcs (by rfl) (Operand.tmp 59) (Operand.tmp 69) 22 26 (.agg #[.string ByteArray.empty, .string ByteArray.empty]) 2 32 (by rfl) Try.underlying22 info_pickQ rfl (by decide) w5.heap.size u13 k (pairVs (Z.take k)) (by rfl) ?_ wr.heap.size 1 (by decide) [.string (tx x), .string (tx y)] rfl (by rfl) ?_ ?_ ?_ ?_ ?_ ?_
                   iterate 1 (exact WA.out)
                   iterate 1 (exact box_2 _ _ _ _)
                   iterate 1 (intro z hz; simp at hz; rcases hz with rfl | rfl <;> rfl)
                   iterate 2 omega
                   iterate 1 (simp; omega)
                   intro v' w6 own1 gr1 at1
                   obtain ⟨b1, cc1, rfl, at1⟩ := at1
                   have OW5 := Lib.hid own1
                   have O6 := Lib.hid (OD.out.own (Nat.le_refl _) WA.out gr1)
                   have g1 := (O6.out.cell (o := k) L5.out.lt).trans CA5.out
                   have g2 := (O6.out.cell (o := k) R5.out.lt).trans CB5.out
                   clear own1 gr1 at1)))
            go_wp2_with fail
            go_roundw
            case rel => exact ⟨k + 1, by omega, by go_num, by rw [← PT.out]; exact OW5.out, O6.out⟩
            case measure => simp [intOf]; omega
          · obtain rfl : k = L.length := by omega
            rw [← LZ.out, List.take_length] at QA
            go_wp2_with fail
            go_ret2
            exact ⟨_, by rw [T1.out.2]; rfl, O5.out.trans OA.out, by rw [T1.out.1]; exact PR.of_own QA.out rfl⟩
end Go.Proofs.Ytalkikljjffpmaa
