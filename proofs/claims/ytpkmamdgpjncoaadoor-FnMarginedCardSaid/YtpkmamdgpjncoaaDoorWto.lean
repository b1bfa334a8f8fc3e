/- bytes.Buffer in a struct's field: WriteTo, into another buffer of the same struct. -/
import Derived.Test.YtpkmamdgpjncoaaDoorBufR
import Derived.Test.YtpkmamdgpjncoaaDoorAnsiB
namespace Go.Proofs.YtpkmamdgpjncoaaDoor
open Go.RowKit
set_option linter.unusedVariables false
set_option linter.unusedSimpArgs false
set_option linter.unnecessarySimpa false
set_option maxRecDepth 100000

theorem nil_bw (b o : Nat) (w : World) : (nilAhead 235 63 (.pointer (some ⟨b, o, none⟩)) "Write").run Tryd.prog w = .ok (some false) w := by kernel_rfl
/-- Two buffers of one struct. -/
structure Two (K : Value → Int → Value → Int → Array Value) (o1 o2 : Nat) : Prop where
  a : ∀ cv cl, Ctx (fun v lr => K v lr cv cl) o1
  b : ∀ v lr, Ctx (K v lr) o2
  n : ∀ v lr cv cl x, ((K v lr cv cl).setIfInBounds (o1 + 1) x)[o1]? = some v
  n2 : ∀ v lr cv cl x, ∃ y, ((K v lr cv cl).setIfInBounds (o1 + 1) x)[o1 + 2]? = some y
  n1 : ∀ v lr cv cl x, ((K v lr cv cl).setIfInBounds (o1 + 1) x)[o1 + 1]? = some x
  r : ∀ v lr cv cl x v', ((((K v lr cv cl).setIfInBounds (o1 + 1) x).setIfInBounds o1 v').setIfInBounds (o1 + 1) (.int .i64 0)).setIfInBounds (o1 + 2) (.int .i8 0) = K v' 0 cv cl
  s : ∀ v lr cv cl v', (((K v lr cv cl).setIfInBounds o1 v').setIfInBounds (o1 + 1) (.int .i64 0)).setIfInBounds (o1 + 2) (.int .i8 0) = K v' 0 cv cl
theorem wto_end {w w3 W : World} {p o1 o2 : Nat} {T : TypeId} {K : Value → Int → Value → Int → Array Value} {B : Nat} {v cv cv' v' : Value} {m : List UInt8} {lr' : Int} (hK : Two K o1 o2) (h : BB w3 p o2 T (K v 0) B cv' m) (nx : Nx w cv cv') (f : Fr [some p, cv.ownBlock] w w3) (hW : W.heap[p]? = some (.cells (K v' 0 cv' lr') T)) (g : Fr [some p] w3 W) :
    BB W p o2 T (K v' 0) B cv' m ∧ Nx w cv cv' ∧ Fr [some p, cv.ownBlock] w W := by
  refine ⟨⟨hK.b _ _, ⟨lr', hW⟩, fown_same h.own (fun gg hg => g.block gg (fown_lt h.own hg).2 (by simp; rintro rfl; exact h.ne hg)), h.ne⟩, nx, f.trans g (fun i _ e => by simp at e; simp [e])⟩
set_option maxHeartbeats 4000000 in
theorem wtn_any {w : World} {p o1 o2 : Nat} {T : TypeId} {K : Value → Int → Value → Int → Array Value} {B : Nat} {v cv : Value} {lr cl : Int} {m : List UInt8} (hK : Two K o1 o2) (hC : w.heap[p]? = some (.cells (K v lr cv cl) T)) (own : w.ownsRow B 5 1 v 0 (byV [])) (h2 : BB w p o2 T (K v lr) B cv m) :
    Calls Tryd.prog 62 #[.pointer (some ⟨p, o1, none⟩), .iface 63 (.pointer (some ⟨p, o2, none⟩))] w fun e w' => e = .returned (.tuple #[.int .i64 0, .nilIface]) ∧ ∃ v' cv', BB w' p o2 T (K v' 0) B cv' m ∧ Nx w cv cv' ∧ Fr [some p, cv.ownBlock] w w' := by
  obtain ⟨ao, cap, hv, hc, hm⟩ : ∃ ao cap, v = .slice ao 0 cap ∧ 0 ≤ cap ∧ cap ≤ maxLen := by
    rcases own_two own with ⟨h1, h2, h3⟩ | ⟨g, cap, cur, hv, h1, h2, h3, h4, h5, h6⟩
    · exact ⟨none, 0, h1, by omega, by unfold maxLen; omega⟩
    · exact ⟨_, cap, hv, h3, h4⟩
  subst hv
  have c2 := (fcell hC (o1 + 2)).trans ((hK.a cv cl).c2 _ _)
  have f2 := ffree hC (o1 + 2)
  have hC1 := fset (j := o1 + 2) hC (.int .i8 0)
  rw [(hK.a cv cl).s2] at hC1
  have d0 := (fcell hC1 o1).trans ((hK.a cv cl).c0 _ _)
  have d1 := (fcell hC1 (o1 + 1)).trans ((hK.a cv cl).c1 _ _)
  have F1 : Hid (Fr [some p, cv.ownBlock] w (w.setCell ⟨p, o1 + 2, none⟩ (.int .i8 0))) := Fr.set w p _ _ (by simp)
  have hB1 : Hid (BB (w.setCell ⟨p, o1 + 2, none⟩ (.int .i8 0)) p o2 T (K (.slice ao 0 cap) 0) B cv m) := ⟨hK.b _ _, ⟨cl, hC1⟩, fown_same h2.own (fun g hg => Below.heap_setCell w ⟨p, o1 + 2, none⟩ _ g (fun e => h2.ne (by rw [hg, e]))), h2.ne⟩
  have HC1 := Lib.hid hC1
  have TK := Lib.hid hK
  clear hC1 hC h2 own hK
  generalize hX : w.setCell ⟨p, o1 + 2, none⟩ (.int .i8 0) = X at d0 d1 F1 hB1 HC1
  go_enter Tryd.func62, Tryd.ntmps62
  go_wp2_with (first
    | (go_at_call 72; (try rw [hX]); refine (ln_any p o1 ao 0 cap X d0 d1 hc hm).mono ?_; rintro e w2 ⟨rfl, o2', s2⟩; have O2 := Lib.hid o2'; clear o2' s2)
    | (go_at_call 60
       refine (rst_any p o1 0 cap ao _ T w2 ((O2.out.heap (flt HC1.out)).trans HC1.out) ((TK.out.a cv cl).c0 _ _) ⟨_, (TK.out.a cv cl).c1 _ _⟩ ⟨_, (TK.out.a cv cl).c2 _ _⟩ hc hm).mono ?_
       rintro e w3 ⟨rfl, h3⟩
       have H3 := Lib.hid h3
       clear h3))
  go_ret2
  have e3 := fset (j := o1 + 2) (fset (j := o1 + 1) (fset (j := o1) ((O2.out.heap (flt HC1.out)).trans HC1.out) (.slice ao 0 cap)) (.int .i64 0)) (.int .i8 0)
  rw [TK.out.s, ← H3.out] at e3
  have g : Fr [some p] w2 w3 := by rw [H3.out]; exact (((Fr.refl _ _).then_set p _ _ (by simp)).then_set p _ _ (by simp)).then_set p _ _ (by simp)
  exact ⟨rfl, _, cv, wto_end TK.out (hB1.out.old O2.out) (.inl rfl) (F1.out.then_old O2.out) e3 g⟩
set_option maxHeartbeats 4000000 in
theorem wtr_any {w : World} {p o1 o2 : Nat} {T : TypeId} {K : Value → Int → Value → Int → Array Value} {B : Nat} {v cv : Value} {lr cl : Int} {l m : List UInt8} (hK : Two K o1 o2) (hC : w.heap[p]? = some (.cells (K v lr cv cl) T)) (own : w.ownsRow B 5 1 v l.length (byV l)) (hvp : v.ownBlock ≠ some p) (n : Nat) (hn : n = l.length) (h0 : 0 < n) (h2 : BB w p o2 T (K v lr) B cv m) (hB : B ≤ w.heap.size) (hlim : m.length + n ≤ 1000000) :
    Calls Tryd.prog 62 #[.pointer (some ⟨p, o1, none⟩), .iface 63 (.pointer (some ⟨p, o2, none⟩))] w fun e w' => e = .returned (.tuple #[.int .i64 n, .nilIface]) ∧ ∃ v' cv', BB w' p o2 T (K v' 0) B cv' (m ++ l) ∧ Nx w cv cv' ∧ Fr [some p, cv.ownBlock] w w' := by
  obtain ⟨g, cap, cur, hv, hc, hm, hg, hcs, htk⟩ : ∃ g cap cur, v = .slice (some ⟨g, 0, none⟩) n cap ∧ n ≤ cap ∧ cap ≤ maxLen ∧ w.heap[g]? = some (.cells cur 5) ∧ cur.size = cap ∧ cur.toList.take n = byV l := by
    rw [← hn] at own
    rcases own_two own with ⟨h1, h2, h3⟩ | ⟨g, cap, cur, hv, h1, h2, h3, h4, h5, h6⟩
    · omega
    · exact ⟨g, cap, cur, hv, h3, h4, h2, h5, h6⟩
  subst hv
  have hgp : g ≠ p := fun e => hvp (by rw [e]; rfl)
  have c2 := (fcell hC (o1 + 2)).trans ((hK.a cv cl).c2 _ _)
  have f2 := ffree hC (o1 + 2)
  have hC1 := fset (j := o1 + 2) hC (.int .i8 0)
  rw [(hK.a cv cl).s2] at hC1
  have d0 := (fcell hC1 o1).trans ((hK.a cv cl).c0 _ _)
  have d1 := (fcell hC1 (o1 + 1)).trans ((hK.a cv cl).c1 _ _)
  have F1 : Hid (Fr [some p, cv.ownBlock] w (w.setCell ⟨p, o1 + 2, none⟩ (.int .i8 0))) := Fr.set w p _ _ (by simp)
  have hB1 : Hid (BB (w.setCell ⟨p, o1 + 2, none⟩ (.int .i8 0)) p o2 T (K (.slice (some ⟨g, 0, none⟩) n cap) 0) B cv m) := ⟨hK.b _ _, ⟨cl, hC1⟩, fown_same h2.own (fun g hg => Below.heap_setCell w ⟨p, o1 + 2, none⟩ _ g (fun e => h2.ne (by rw [hg, e]))), h2.ne⟩
  have G1 : Hid ((w.setCell ⟨p, o1 + 2, none⟩ (.int .i8 0)).heap[g]? = some (.cells cur 5)) := (Below.heap_setCell w ⟨p, o1 + 2, none⟩ _ g hgp).trans hg
  have HC1 := Lib.hid hC1
  have TK := Lib.hid hK
  have HN := Lib.hid hn
  have hBs : Hid (B ≤ (w.setCell ⟨p, o1 + 2, none⟩ (.int .i8 0)).heap.size) := Nat.le_trans hB F1.out.size
  have SR : Hid (∀ (W : World), W.heap[g]? = some (.cells cur 5) → ∀ j (hj : j < l.length), W.cell? ((⟨g, 0, none⟩ : Addr).add j) = some (.int .u8 (l[j].toNat : Int))) := by
    intro W hW j hj
    have hadd : (⟨g, 0, none⟩ : Addr).add j = ⟨g, j, none⟩ := by unfold Addr.add; split <;> simp_all
    rw [hadd, fcell hW j]
    have e := congrArg (fun x => x[j]?) htk
    simp only [List.getElem?_take] at e
    rw [if_pos (by omega)] at e
    rw [← Array.getElem?_toList, e]
    unfold byV
    rw [List.getElem?_map, List.getElem?_eq_getElem hj]
    rfl
  have SZ : Hid (w.heap.size ≤ (w.setCell ⟨p, o1 + 2, none⟩ (.int .i8 0)).heap.size) := F1.out.size
  have GP := Lib.hid hgp
  have hm' := hm
  unfold maxLen at hm'
  have hne : ¬ cap = 0 := by omega
  have hnz : decide ((n : Int) > 0) = true := by simp; omega
  have hme := fun W => meth_bw p o2 W
  clear hC1 hC h2 own hK hn htk hgp hg
  generalize hX : w.setCell ⟨p, o1 + 2, none⟩ (.int .i8 0) = X at d0 d1 F1 hB1 HC1 G1 hBs SZ
  go_enter Tryd.func62, Tryd.ntmps62
  go_wp2_with (go_at_call 72; (try rw [hX]); refine (ln_any p o1 _ n cap X d0 d1 hc hm).mono ?_; rintro e w2 ⟨rfl, o2', s2⟩; have O2 := Lib.hid o2'; clear o2' s2)
  have k0 := (O2.out.cell (o := o1) (flt HC1.out)).trans d0
  have k1 := (O2.out.cell (o := o1 + 1) (flt HC1.out)).trans d1
  have HBd : Hid (BB w2.drew p o2 T (K (.slice (some ⟨g, 0, none⟩) n cap) 0) B cv m) := (hB1.out.old O2.out).old (Old.drew w2)
  have SRd := Lib.hid (SR.out w2.drew ((O2.out.heap (flt G1.out)).trans G1.out))
  have LBd : Hid (B ≤ w2.drew.heap.size) := Nat.le_trans hBs.out O2.out.size
  have hnb := fun W => nil_bw p o2 W
  have hwn : IntKind.i64.wrap (n : Int) = n := by have := IntKind.wrap_i64 (n : Int); rw [this]; omega
  clear d0 d1 c2 f2 hX
  go_region_with (
    show Calls Tryd.prog 55 #[.pointer (some ⟨p, o2, none⟩), .slice (some ⟨g, 0, none⟩) n cap] _ _
    refine (bw_any HBd.out l n HN.out ⟨g, 0, none⟩ cap GP.out SRd.out (by omega) hlim LBd.out).mono ?_
    rintro e w3 ⟨rfl, cv', r1, r2, r3⟩
    obtain ⟨lr', hC3⟩ := r1.cells
    have j1 := (fcell hC3 (o1 + 1)).trans ((TK.out.a cv' lr').c1 _ _)
    have jf := ffree hC3 (o1 + 1)
    have R1 := Lib.hid r1
    have R2 := Lib.hid r2
    have R3 := Lib.hid r3
    have HC3 := Lib.hid hC3
    clear r1 r2 r3 hC3)
  all_goals
    go_wp2_with (go_at_call 60
                 refine (rst_any p o1 n cap _ _ T _ (fset (j := o1 + 1) HC3.out (.int .i64 n)) (TK.out.n _ _ _ _ _) ⟨_, TK.out.n1 _ _ _ _ _⟩ (TK.out.n2 _ _ _ _ _) hc hm).mono ?_
                 rintro e w4 ⟨rfl, h4⟩
                 have H4 := Lib.hid h4
                 clear h4)
    go_ret2
    have e3 := fset (j := o1 + 2) (fset (j := o1 + 1) (fset (j := o1) (fset (j := o1 + 1) HC3.out (.int .i64 n)) (.slice (some ⟨g, 0, none⟩) 0 cap)) (.int .i64 0)) (.int .i8 0)
    rw [TK.out.r, ← H4.out] at e3
    have g4 : Fr [some p] w3 w4 := by rw [H4.out]; exact ((((Fr.refl _ _).then_set p _ _ (by simp)).then_set p _ _ (by simp)).then_set p _ _ (by simp)).then_set p _ _ (by simp)
    have f3 : Fr [some p, cv.ownBlock] w w3 := ((F1.out.then_old O2.out).then_old (Old.drew w2)).trans R3.out (fun _ _ e => e)
    exact ⟨rfl, _, cv', wto_end TK.out R1.out (R2.out.old (Nat.le_trans SZ.out O2.out.size)) f3 e3 g4⟩
end Go.Proofs.YtpkmamdgpjncoaaDoor
