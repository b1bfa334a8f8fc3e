/- (*Buffer).InsertText, without overwriting. (Printed by mkbufi.py.) -/
import Derived.Test.YtleamondilmojaaDoorBufL
import Derived.Test.YtleamondilmojaaDoorAnyT
import Derived.Deep.RegionHeld3
namespace Go.Proofs.YtleamondilmojaaDoor
open Go.RowKit
set_option linter.unusedVariables false
set_option linter.unusedSimpArgs false
set_option linter.unnecessarySimpa false
set_option maxRecDepth 100000

section
variable {P : Program}
theorem Lands.conv {T' : World → Prop} {v : Value} {w w1 : World} {o : Oper} {a : Act} (src dst : TypeId) (x : Operand) (val : Value) (ho : o.op = .convert src dst x) (hx : a.eval x = val)
    (hr : (convert src dst val).run P w = .ok v w1) (h : T' w1) : Lands P T' v ((execOp a.eval o).run P w) := by
  unfold execOp
  simp only [ho, hx, Sem.run_bind, Sem.run_pure, hr, Result.andThen_ok]
  exact Lands.value h
end
theorem runesAt_two {p q : Nat} {w w' : World} {b o n c : Nat} {L : List Int} (h : RunesAt w (.slice (some ⟨b, o, none⟩) n c) L) (t : Two p q w w') (h1 : b ≠ p) (h2 : b ≠ q) : RunesAt w' (.slice (some ⟨b, o, none⟩) n c) L := by
  obtain ⟨b', o', c', e, g1, g2, g3, g4⟩ := h
  injection e with e1 e2 e3; injection e1 with e1; injection e1 with e1 e4; subst e1 e4 e2 e3
  exact ⟨b, o, c, rfl, g1, g2, Nat.lt_of_lt_of_le g3 t.size, fun j hj => (t.cell g3 h1 h2).trans (g4 j hj)⟩
/-- Within InsertText: the text as it was, or as it is then. -/
def TI (W0 : World) (bp lb : Nat) (l m : Bs) (k : Nat) (pc : Int) (dv : Value) (vb vc : Nat) (b : Bool) (w : World) : Prop :=
  B9 w bp lb (if b then m else l) k pc dv ∧ Two bp lb W0 w ∧ RunesAt w (.slice (some ⟨vb, 0, none⟩) l.length vc) (l.map fun c => (c.toNat : Int))
theorem TI.set {W0 : World} {bp lb : Nat} {l m : Bs} {k : Nat} {pc : Int} {dv : Value} {vb vc : Nat} {w w' : World} (h : TI W0 bp lb l m k pc dv vb vc false w) (hb : B9 w' bp lb m k pc dv) (t : Two bp lb w w') (h1 : vb ≠ bp) (h2 : vb ≠ lb) : TI W0 bp lb l m k pc dv vb vc true w' :=
  ⟨hb, h.2.1.trans t, runesAt_two h.2.2 t h1 h2⟩
theorem post_tx {l : Bs} (ok : okT l) (k : Nat) : runesBytes ((l.drop k).map fun c => (c.toNat : Int)) = tx (l.drop k) := back_tx (ok.drop k)
theorem nil_tx {l : Bs} {k : Nat} (h : l.length ≤ k) : runesBytes [] = tx (l.drop k) := by rw [List.drop_eq_nil_of_le h]; rfl

set_option maxHeartbeats 1000000 in
theorem insF_any (bp lb : Nat) (l : Bs) (k : Nat) (pc : Int) (dv : Value) (w : World) (h : B9 w bp lb l k pc dv) (hk : k ≤ l.length) (ok : okT l) (v : Bs) (okv : okT v) :
    Calls Tryd.prog 81 #[.pointer (some ⟨bp, 0, none⟩), .string (tx v), .bool false, .bool false] w (StepPost bp lb (insM l k v) (k) pc w) := by
  have H := Lib.hid h
  have c2 := h.c2
  have OK := Lib.hid ok
  have OV := Lib.hid okv
  have hn := ok.n
  have hvn := okv.n
  have hbl := h.lt.1
  have hll := h.lt.2
  clear h ok okv
  have i0 : (k : Int) ≤ l.length := by omega
  have e0 : (((l.length : Int) - k).toNat) = l.length - k := by omega
  go_enter Tryd.func81, Tryd.ntmps81
  go_upto_region 8 with (first
    | (go_at_call 62; refine (text_any bp lb l k pc dv w H.out).mono ?_; rintro e w1 ⟨rfl, n, rfl⟩)
    | (refine wpList_runes rfl 9 42 21 _ (tx l) rfl rfl (by kernel_rfl) (by kernel_rfl) (by kernel_rfl) (by rw [tx_size]; omega) ?_; intro vv w2 o2 r2 hv2 own2; have e2 := (o2.cell (o := 2) hbl).trans c2; have O2 := Lib.hid ((Old.drewN w n).trans o2); rw [runes_tx OK.out] at hv2 r2 own2; obtain ⟨vb, vc, rfl⟩ := hv2; rw [List.length_map] at r2 own2; rw [List.length_map]; have OW := Lib.hid own2; have R2 := Lib.hid r2; obtain ⟨_, _, _, eq, q1, q2, _⟩ := r2; injection eq with eq1 eq2 eq3; subst eq3; rw [List.length_map] at q1; unfold maxLen at q2; have i1 : (k : Int) ≤ vc := (by omega); clear o2 own2 eq1 eq2))
  have NE : Hid (vb ≠ bp ∧ vb ≠ lb) := by
    have h1 := (own_lt OW.out).1
    have h2 : (w.drewN n).heap.size = w.heap.size := rfl
    exact ⟨by omega, by omega⟩
  have T0 : TI w bp lb l (insM l k v) k pc dv vb vc false w2.drew := ⟨H.out.old (O2.out.then_drew), Two.of_old (O2.out.then_drew), R2.out.later (Old.drew _)⟩
  have hap1 := tx_append (l.take k) v
  have hap2 := tx_append (l.take k ++ v) (l.drop k)
  have s1 : (tx (l.take k)).size ≤ 1000000 := by rw [tx_size]; exact (OK.out.take k).n
  have s2 : (tx v).size ≤ 1000000 := by rw [tx_size]; exact hvn
  have s3 : (tx (l.take k ++ v)).size ≤ 2000000 := by rw [tx_size, List.length_append]; have := (OK.out.take k).n; omega
  have s4 : (tx (l.drop k)).size ≤ 1000000 := by rw [tx_size]; exact (OK.out.drop k).n
  have HI : tx (l.take k ++ v ++ l.drop k) = tx (insM l k v) := rfl
  rw [HI] at hap2
  have hs0 : (tx l).size = l.length := tx_size l
  rcases Nat.lt_or_ge k vc with hv | hv
  · refine wp_region_noPanic ?_
    refine wp_region_T (TI w bp lb l (insM l k v) k pc dv vb vc) 12 (by kernel_rfl) (T0) ?_
    refine wpT_take (i := 0) (v := ?_) rfl (by kernel_rfl) (by kernel_rfl) (by kernel_rfl) (Or.inl ⟨by rfl, ?_⟩) ?_
    rotate_left
    · (intro b hb w hT; go_simp; exact Lands.value hT)
    try simp only [Act.put, List.getElem_toArray, List.getElem_cons_succ, List.getElem_cons_zero, List.setIfInBounds_toArray, List.set_cons_zero, List.set_cons_succ]
    refine wpT_take (i := 1) (v := ?_) rfl (by kernel_rfl) (by kernel_rfl) (by kernel_rfl) (Or.inl ⟨by rfl, ?_⟩) ?_
    rotate_left
    · (intro b hb w hT; go_simp; exact Lands.value hT)
    try simp only [Act.put, List.getElem_toArray, List.getElem_cons_succ, List.getElem_cons_zero, List.setIfInBounds_toArray, List.set_cons_zero, List.set_cons_succ]
    refine wpT_take (i := 2) (v := ?_) rfl (by kernel_rfl) (by kernel_rfl) (by kernel_rfl) (Or.inl ⟨by rfl, ?_⟩) ?_
    rotate_left
    · (intro b hb w hT; go_simp; exact Lands.value hT)
    try simp only [Act.put, List.getElem_toArray, List.getElem_cons_succ, List.getElem_cons_zero, List.setIfInBounds_toArray, List.set_cons_zero, List.set_cons_succ]
    refine wpT_take (i := 3) (v := ?_) rfl (by kernel_rfl) (by kernel_rfl) (by kernel_rfl) (Or.inl ⟨by rfl, ?_⟩) ?_
    rotate_left
    · (intro b hb w hT; go_simp; exact Lands.value hT)
    try simp only [Act.put, List.getElem_toArray, List.getElem_cons_succ, List.getElem_cons_zero, List.setIfInBounds_toArray, List.set_cons_zero, List.set_cons_succ]
    refine wpT_take (i := 4) (v := .string (tx (l.take k))) rfl (by kernel_rfl) (by kernel_rfl) (by kernel_rfl) (Or.inl ⟨by rfl, ?_⟩) ?_
    · (intro b hb w hT; refine Lands.conv (w1 := w) 42 9 _ _ rfl rfl ((runes_back w 42 9 21 _ _ (by kernel_rfl) (by kernel_rfl) (by kernel_rfl) (hT.2.2.pre hk)).trans (by rw [back_tx (OK.out.take k)])) ?_; exact hT)
    try simp only [Act.put, List.getElem_toArray, List.getElem_cons_succ, List.getElem_cons_zero, List.setIfInBounds_toArray, List.set_cons_zero, List.set_cons_succ]
    refine wpT_take (i := 5) (v := ?_) rfl (by kernel_rfl) (by kernel_rfl) (by kernel_rfl) (Or.inl ⟨by rfl, ?_⟩) ?_
    rotate_left
    · (intro b hb w hT; go_simp; exact Lands.value hT)
    try simp only [Act.put, List.getElem_toArray, List.getElem_cons_succ, List.getElem_cons_zero, List.setIfInBounds_toArray, List.set_cons_zero, List.set_cons_succ]
    refine wpT_take (i := 6) (v := .string (tx (l.take k ++ v))) rfl (by kernel_rfl) (by kernel_rfl) (by kernel_rfl) (Or.inl ⟨by rfl, ?_⟩) ?_
    · (intro b hb w hT; go_simp; rw [if_neg (by omega)]; exact Lands.value hT)
    try simp only [Act.put, List.getElem_toArray, List.getElem_cons_succ, List.getElem_cons_zero, List.setIfInBounds_toArray, List.set_cons_zero, List.set_cons_succ]
    refine wpT_take (i := 7) (v := ?_) rfl (by kernel_rfl) (by kernel_rfl) (by kernel_rfl) (Or.inl ⟨by rfl, ?_⟩) ?_
    rotate_left
    · (intro b hb w hT; go_simp; exact Lands.value hT)
    try simp only [Act.put, List.getElem_toArray, List.getElem_cons_succ, List.getElem_cons_zero, List.setIfInBounds_toArray, List.set_cons_zero, List.set_cons_succ]
    refine wpT_take (i := 8) (v := ?_) rfl (by kernel_rfl) (by kernel_rfl) (by kernel_rfl) (Or.inl ⟨by rfl, ?_⟩) ?_
    rotate_left
    · (intro b hb w hT; go_simp; exact Lands.value hT)
    try simp only [Act.put, List.getElem_toArray, List.getElem_cons_succ, List.getElem_cons_zero, List.setIfInBounds_toArray, List.set_cons_zero, List.set_cons_succ]
    refine wpT_take (i := 9) (v := .slice (some ⟨vb, k, none⟩) (l.length - k) (vc - k)) rfl (by kernel_rfl) (by kernel_rfl) (by kernel_rfl) (Or.inl ⟨by rfl, ?_⟩) ?_
    · (intro b hb w hT; go_simp; rw [if_neg (by omega)]; exact Lands.value hT)
    try simp only [Act.put, List.getElem_toArray, List.getElem_cons_succ, List.getElem_cons_zero, List.setIfInBounds_toArray, List.set_cons_zero, List.set_cons_succ]
    refine wpT_take (i := 10) (v := .string (tx (l.drop k))) rfl (by kernel_rfl) (by kernel_rfl) (by kernel_rfl) (Or.inl ⟨by rfl, ?_⟩) ?_
    · (intro b hb w hT; refine Lands.conv (w1 := w) 42 9 _ _ rfl rfl ((runes_back w 42 9 21 _ _ (by kernel_rfl) (by kernel_rfl) (by kernel_rfl) (hT.2.2.post hk k (vc - k) (fun _ => rfl) (by omega) (by unfold maxLen; omega))).trans (by rw [back_tx (OK.out.drop k)])) ?_; exact hT)
    try simp only [Act.put, List.getElem_toArray, List.getElem_cons_succ, List.getElem_cons_zero, List.setIfInBounds_toArray, List.set_cons_zero, List.set_cons_succ]
    refine wpT_take (i := 11) (v := .string (tx (insM l k v))) rfl (by kernel_rfl) (by kernel_rfl) (by kernel_rfl) (Or.inl ⟨by rfl, ?_⟩) ?_
    · (intro b hb w hT; go_simp; rw [if_neg (by omega)]; exact Lands.value hT)
    try simp only [Act.put, List.getElem_toArray, List.getElem_cons_succ, List.getElem_cons_zero, List.setIfInBounds_toArray, List.set_cons_zero, List.set_cons_succ]
    refine wpT_take (i := 12) (v := .tuple #[]) rfl (by kernel_rfl) (by kernel_rfl) (by kernel_rfl) (Or.inl ⟨by rfl, ?_⟩) ?_
    · (intro b hb w hT; obtain rfl : b = false := hb rfl; go_simp; exact Lands.enter ((setText_any bp lb l (insM l k v) k pc dv w hT.1).mono fun e w' h => ⟨h.1, hT.set h.2.1 h.2.2 NE.out.1 NE.out.2⟩))
    try simp only [Act.put, List.getElem_toArray, List.getElem_cons_succ, List.getElem_cons_zero, List.setIfInBounds_toArray, List.set_cons_zero, List.set_cons_succ]
    refine wpT_done (by kernel_rfl) ?_ _
    intro wt hT
    refine NoPanic.normal ?_
    have BZ := Lib.hid hT.1
    have TZ := Lib.hid hT.2.1
    clear hT T0
    go_wp2_with fail
    go_end0
    exact ⟨rfl, ⟨_, BZ.out⟩, TZ.out⟩
  · have hv2 : k = vc := by omega
    subst hv2
    have e9 : l.length - k = 0 := by omega
    refine wp_region_noPanic ?_
    refine wp_region_T (TI w bp lb l (insM l k v) k pc dv vb k) 12 (by kernel_rfl) (T0) ?_
    refine wpT_take (i := 0) (v := ?_) rfl (by kernel_rfl) (by kernel_rfl) (by kernel_rfl) (Or.inl ⟨by rfl, ?_⟩) ?_
    rotate_left
    · (intro b hb w hT; go_simp; exact Lands.value hT)
    try simp only [Act.put, List.getElem_toArray, List.getElem_cons_succ, List.getElem_cons_zero, List.setIfInBounds_toArray, List.set_cons_zero, List.set_cons_succ]
    refine wpT_take (i := 1) (v := ?_) rfl (by kernel_rfl) (by kernel_rfl) (by kernel_rfl) (Or.inl ⟨by rfl, ?_⟩) ?_
    rotate_left
    · (intro b hb w hT; go_simp; exact Lands.value hT)
    try simp only [Act.put, List.getElem_toArray, List.getElem_cons_succ, List.getElem_cons_zero, List.setIfInBounds_toArray, List.set_cons_zero, List.set_cons_succ]
    refine wpT_take (i := 2) (v := ?_) rfl (by kernel_rfl) (by kernel_rfl) (by kernel_rfl) (Or.inl ⟨by rfl, ?_⟩) ?_
    rotate_left
    · (intro b hb w hT; go_simp; exact Lands.value hT)
    try simp only [Act.put, List.getElem_toArray, List.getElem_cons_succ, List.getElem_cons_zero, List.setIfInBounds_toArray, List.set_cons_zero, List.set_cons_succ]
    refine wpT_take (i := 3) (v := ?_) rfl (by kernel_rfl) (by kernel_rfl) (by kernel_rfl) (Or.inl ⟨by rfl, ?_⟩) ?_
    rotate_left
    · (intro b hb w hT; go_simp; exact Lands.value hT)
    try simp only [Act.put, List.getElem_toArray, List.getElem_cons_succ, List.getElem_cons_zero, List.setIfInBounds_toArray, List.set_cons_zero, List.set_cons_succ]
    refine wpT_take (i := 4) (v := .string (tx (l.take k))) rfl (by kernel_rfl) (by kernel_rfl) (by kernel_rfl) (Or.inl ⟨by rfl, ?_⟩) ?_
    · (intro b hb w hT; refine Lands.conv (w1 := w) 42 9 _ _ rfl rfl ((runes_back w 42 9 21 _ _ (by kernel_rfl) (by kernel_rfl) (by kernel_rfl) (hT.2.2.pre hk)).trans (by rw [back_tx (OK.out.take k)])) ?_; exact hT)
    try simp only [Act.put, List.getElem_toArray, List.getElem_cons_succ, List.getElem_cons_zero, List.setIfInBounds_toArray, List.set_cons_zero, List.set_cons_succ]
    refine wpT_take (i := 5) (v := ?_) rfl (by kernel_rfl) (by kernel_rfl) (by kernel_rfl) (Or.inl ⟨by rfl, ?_⟩) ?_
    rotate_left
    · (intro b hb w hT; go_simp; exact Lands.value hT)
    try simp only [Act.put, List.getElem_toArray, List.getElem_cons_succ, List.getElem_cons_zero, List.setIfInBounds_toArray, List.set_cons_zero, List.set_cons_succ]
    refine wpT_take (i := 6) (v := .string (tx (l.take k ++ v))) rfl (by kernel_rfl) (by kernel_rfl) (by kernel_rfl) (Or.inl ⟨by rfl, ?_⟩) ?_
    · (intro b hb w hT; go_simp; rw [if_neg (by omega)]; exact Lands.value hT)
    try simp only [Act.put, List.getElem_toArray, List.getElem_cons_succ, List.getElem_cons_zero, List.setIfInBounds_toArray, List.set_cons_zero, List.set_cons_succ]
    refine wpT_take (i := 7) (v := ?_) rfl (by kernel_rfl) (by kernel_rfl) (by kernel_rfl) (Or.inl ⟨by rfl, ?_⟩) ?_
    rotate_left
    · (intro b hb w hT; go_simp; exact Lands.value hT)
    try simp only [Act.put, List.getElem_toArray, List.getElem_cons_succ, List.getElem_cons_zero, List.setIfInBounds_toArray, List.set_cons_zero, List.set_cons_succ]
    refine wpT_take (i := 8) (v := ?_) rfl (by kernel_rfl) (by kernel_rfl) (by kernel_rfl) (Or.inl ⟨by rfl, ?_⟩) ?_
    rotate_left
    · (intro b hb w hT; go_simp; exact Lands.value hT)
    try simp only [Act.put, List.getElem_toArray, List.getElem_cons_succ, List.getElem_cons_zero, List.setIfInBounds_toArray, List.set_cons_zero, List.set_cons_succ]
    refine wpT_take (i := 9) (v := .slice (some ⟨vb, 0, none⟩) 0 0) rfl (by kernel_rfl) (by kernel_rfl) (by kernel_rfl) (Or.inl ⟨by rfl, ?_⟩) ?_
    · (intro b hb w hT; go_simp; exact Lands.value hT)
    try simp only [Act.put, List.getElem_toArray, List.getElem_cons_succ, List.getElem_cons_zero, List.setIfInBounds_toArray, List.set_cons_zero, List.set_cons_succ]
    refine wpT_take (i := 10) (v := .string (tx (l.drop k))) rfl (by kernel_rfl) (by kernel_rfl) (by kernel_rfl) (Or.inl ⟨by rfl, ?_⟩) ?_
    · (intro b hb w hT; refine Lands.conv (w1 := w) 42 9 _ _ rfl rfl ((runes_back w 42 9 21 _ _ (by kernel_rfl) (by kernel_rfl) (by kernel_rfl) hT.2.2.none).trans (by rw [nil_tx (l := l) (k := k) (by omega)])) ?_; exact hT)
    try simp only [Act.put, List.getElem_toArray, List.getElem_cons_succ, List.getElem_cons_zero, List.setIfInBounds_toArray, List.set_cons_zero, List.set_cons_succ]
    refine wpT_take (i := 11) (v := .string (tx (insM l k v))) rfl (by kernel_rfl) (by kernel_rfl) (by kernel_rfl) (Or.inl ⟨by rfl, ?_⟩) ?_
    · (intro b hb w hT; go_simp; rw [if_neg (by omega)]; exact Lands.value hT)
    try simp only [Act.put, List.getElem_toArray, List.getElem_cons_succ, List.getElem_cons_zero, List.setIfInBounds_toArray, List.set_cons_zero, List.set_cons_succ]
    refine wpT_take (i := 12) (v := .tuple #[]) rfl (by kernel_rfl) (by kernel_rfl) (by kernel_rfl) (Or.inl ⟨by rfl, ?_⟩) ?_
    · (intro b hb w hT; obtain rfl : b = false := hb rfl; go_simp; exact Lands.enter ((setText_any bp lb l (insM l k v) k pc dv w hT.1).mono fun e w' h => ⟨h.1, hT.set h.2.1 h.2.2 NE.out.1 NE.out.2⟩))
    try simp only [Act.put, List.getElem_toArray, List.getElem_cons_succ, List.getElem_cons_zero, List.setIfInBounds_toArray, List.set_cons_zero, List.set_cons_succ]
    refine wpT_done (by kernel_rfl) ?_ _
    intro wt hT
    refine NoPanic.normal ?_
    have BZ := Lib.hid hT.1
    have TZ := Lib.hid hT.2.1
    clear hT T0
    go_wp2_with fail
    go_end0
    exact ⟨rfl, ⟨_, BZ.out⟩, TZ.out⟩
set_option maxHeartbeats 1000000 in
theorem insT_any (bp lb : Nat) (l : Bs) (k : Nat) (pc : Int) (dv : Value) (w : World) (h : B9 w bp lb l k pc dv) (hk : k ≤ l.length) (ok : okT l) (v : Bs) (okv : okT v) :
    Calls Tryd.prog 81 #[.pointer (some ⟨bp, 0, none⟩), .string (tx v), .bool false, .bool true] w (StepPost bp lb (insM l k v) (k + v.length) pc w) := by
  have H := Lib.hid h
  have c2 := h.c2
  have OK := Lib.hid ok
  have OV := Lib.hid okv
  have hn := ok.n
  have hvn := okv.n
  have hbl := h.lt.1
  have hll := h.lt.2
  clear h ok okv
  have i0 : (k : Int) ≤ l.length := by omega
  have e0 : (((l.length : Int) - k).toNat) = l.length - k := by omega
  go_enter Tryd.func81, Tryd.ntmps81
  go_upto_region 8 with (first
    | (go_at_call 62; refine (text_any bp lb l k pc dv w H.out).mono ?_; rintro e w1 ⟨rfl, n, rfl⟩)
    | (refine wpList_runes rfl 9 42 21 _ (tx l) rfl rfl (by kernel_rfl) (by kernel_rfl) (by kernel_rfl) (by rw [tx_size]; omega) ?_; intro vv w2 o2 r2 hv2 own2; have e2 := (o2.cell (o := 2) hbl).trans c2; have O2 := Lib.hid ((Old.drewN w n).trans o2); rw [runes_tx OK.out] at hv2 r2 own2; obtain ⟨vb, vc, rfl⟩ := hv2; rw [List.length_map] at r2 own2; rw [List.length_map]; have OW := Lib.hid own2; have R2 := Lib.hid r2; obtain ⟨_, _, _, eq, q1, q2, _⟩ := r2; injection eq with eq1 eq2 eq3; subst eq3; rw [List.length_map] at q1; unfold maxLen at q2; have i1 : (k : Int) ≤ vc := (by omega); clear o2 own2 eq1 eq2))
  have NE : Hid (vb ≠ bp ∧ vb ≠ lb) := by
    have h1 := (own_lt OW.out).1
    have h2 : (w.drewN n).heap.size = w.heap.size := rfl
    exact ⟨by omega, by omega⟩
  have T0 : TI w bp lb l (insM l k v) k pc dv vb vc false w2.drew := ⟨H.out.old (O2.out.then_drew), Two.of_old (O2.out.then_drew), R2.out.later (Old.drew _)⟩
  have hap1 := tx_append (l.take k) v
  have hap2 := tx_append (l.take k ++ v) (l.drop k)
  have s1 : (tx (l.take k)).size ≤ 1000000 := by rw [tx_size]; exact (OK.out.take k).n
  have s2 : (tx v).size ≤ 1000000 := by rw [tx_size]; exact hvn
  have s3 : (tx (l.take k ++ v)).size ≤ 2000000 := by rw [tx_size, List.length_append]; have := (OK.out.take k).n; omega
  have s4 : (tx (l.drop k)).size ≤ 1000000 := by rw [tx_size]; exact (OK.out.drop k).n
  have HI : tx (l.take k ++ v ++ l.drop k) = tx (insM l k v) := rfl
  rw [HI] at hap2
  have hs0 : (tx l).size = l.length := tx_size l
  rcases Nat.lt_or_ge k vc with hv | hv
  · refine wp_region_noPanic ?_
    refine wp_region_T (TI w bp lb l (insM l k v) k pc dv vb vc) 12 (by kernel_rfl) (T0) ?_
    refine wpT_take (i := 0) (v := ?_) rfl (by kernel_rfl) (by kernel_rfl) (by kernel_rfl) (Or.inl ⟨by rfl, ?_⟩) ?_
    rotate_left
    · (intro b hb w hT; go_simp; exact Lands.value hT)
    try simp only [Act.put, List.getElem_toArray, List.getElem_cons_succ, List.getElem_cons_zero, List.setIfInBounds_toArray, List.set_cons_zero, List.set_cons_succ]
    refine wpT_take (i := 1) (v := ?_) rfl (by kernel_rfl) (by kernel_rfl) (by kernel_rfl) (Or.inl ⟨by rfl, ?_⟩) ?_
    rotate_left
    · (intro b hb w hT; go_simp; exact Lands.value hT)
    try simp only [Act.put, List.getElem_toArray, List.getElem_cons_succ, List.getElem_cons_zero, List.setIfInBounds_toArray, List.set_cons_zero, List.set_cons_succ]
    refine wpT_take (i := 2) (v := ?_) rfl (by kernel_rfl) (by kernel_rfl) (by kernel_rfl) (Or.inl ⟨by rfl, ?_⟩) ?_
    rotate_left
    · (intro b hb w hT; go_simp; exact Lands.value hT)
    try simp only [Act.put, List.getElem_toArray, List.getElem_cons_succ, List.getElem_cons_zero, List.setIfInBounds_toArray, List.set_cons_zero, List.set_cons_succ]
    refine wpT_take (i := 3) (v := ?_) rfl (by kernel_rfl) (by kernel_rfl) (by kernel_rfl) (Or.inl ⟨by rfl, ?_⟩) ?_
    rotate_left
    · (intro b hb w hT; go_simp; exact Lands.value hT)
    try simp only [Act.put, List.getElem_toArray, List.getElem_cons_succ, List.getElem_cons_zero, List.setIfInBounds_toArray, List.set_cons_zero, List.set_cons_succ]
    refine wpT_take (i := 4) (v := .string (tx (l.take k))) rfl (by kernel_rfl) (by kernel_rfl) (by kernel_rfl) (Or.inl ⟨by rfl, ?_⟩) ?_
    · (intro b hb w hT; refine Lands.conv (w1 := w) 42 9 _ _ rfl rfl ((runes_back w 42 9 21 _ _ (by kernel_rfl) (by kernel_rfl) (by kernel_rfl) (hT.2.2.pre hk)).trans (by rw [back_tx (OK.out.take k)])) ?_; exact hT)
    try simp only [Act.put, List.getElem_toArray, List.getElem_cons_succ, List.getElem_cons_zero, List.setIfInBounds_toArray, List.set_cons_zero, List.set_cons_succ]
    refine wpT_take (i := 5) (v := ?_) rfl (by kernel_rfl) (by kernel_rfl) (by kernel_rfl) (Or.inl ⟨by rfl, ?_⟩) ?_
    rotate_left
    · (intro b hb w hT; go_simp; exact Lands.value hT)
    try simp only [Act.put, List.getElem_toArray, List.getElem_cons_succ, List.getElem_cons_zero, List.setIfInBounds_toArray, List.set_cons_zero, List.set_cons_succ]
    refine wpT_take (i := 6) (v := .string (tx (l.take k ++ v))) rfl (by kernel_rfl) (by kernel_rfl) (by kernel_rfl) (Or.inl ⟨by rfl, ?_⟩) ?_
    · (intro b hb w hT; go_simp; rw [if_neg (by omega)]; exact Lands.value hT)
    try simp only [Act.put, List.getElem_toArray, List.getElem_cons_succ, List.getElem_cons_zero, List.setIfInBounds_toArray, List.set_cons_zero, List.set_cons_succ]
    refine wpT_take (i := 7) (v := ?_) rfl (by kernel_rfl) (by kernel_rfl) (by kernel_rfl) (Or.inl ⟨by rfl, ?_⟩) ?_
    rotate_left
    · (intro b hb w hT; go_simp; exact Lands.value hT)
    try simp only [Act.put, List.getElem_toArray, List.getElem_cons_succ, List.getElem_cons_zero, List.setIfInBounds_toArray, List.set_cons_zero, List.set_cons_succ]
    refine wpT_take (i := 8) (v := ?_) rfl (by kernel_rfl) (by kernel_rfl) (by kernel_rfl) (Or.inl ⟨by rfl, ?_⟩) ?_
    rotate_left
    · (intro b hb w hT; go_simp; exact Lands.value hT)
    try simp only [Act.put, List.getElem_toArray, List.getElem_cons_succ, List.getElem_cons_zero, List.setIfInBounds_toArray, List.set_cons_zero, List.set_cons_succ]
    refine wpT_take (i := 9) (v := .slice (some ⟨vb, k, none⟩) (l.length - k) (vc - k)) rfl (by kernel_rfl) (by kernel_rfl) (by kernel_rfl) (Or.inl ⟨by rfl, ?_⟩) ?_
    · (intro b hb w hT; go_simp; rw [if_neg (by omega)]; exact Lands.value hT)
    try simp only [Act.put, List.getElem_toArray, List.getElem_cons_succ, List.getElem_cons_zero, List.setIfInBounds_toArray, List.set_cons_zero, List.set_cons_succ]
    refine wpT_take (i := 10) (v := .string (tx (l.drop k))) rfl (by kernel_rfl) (by kernel_rfl) (by kernel_rfl) (Or.inl ⟨by rfl, ?_⟩) ?_
    · (intro b hb w hT; refine Lands.conv (w1 := w) 42 9 _ _ rfl rfl ((runes_back w 42 9 21 _ _ (by kernel_rfl) (by kernel_rfl) (by kernel_rfl) (hT.2.2.post hk k (vc - k) (fun _ => rfl) (by omega) (by unfold maxLen; omega))).trans (by rw [back_tx (OK.out.drop k)])) ?_; exact hT)
    try simp only [Act.put, List.getElem_toArray, List.getElem_cons_succ, List.getElem_cons_zero, List.setIfInBounds_toArray, List.set_cons_zero, List.set_cons_succ]
    refine wpT_take (i := 11) (v := .string (tx (insM l k v))) rfl (by kernel_rfl) (by kernel_rfl) (by kernel_rfl) (Or.inl ⟨by rfl, ?_⟩) ?_
    · (intro b hb w hT; go_simp; rw [if_neg (by omega)]; exact Lands.value hT)
    try simp only [Act.put, List.getElem_toArray, List.getElem_cons_succ, List.getElem_cons_zero, List.setIfInBounds_toArray, List.set_cons_zero, List.set_cons_succ]
    refine wpT_take (i := 12) (v := .tuple #[]) rfl (by kernel_rfl) (by kernel_rfl) (by kernel_rfl) (Or.inl ⟨by rfl, ?_⟩) ?_
    · (intro b hb w hT; obtain rfl : b = false := hb rfl; go_simp; exact Lands.enter ((setText_any bp lb l (insM l k v) k pc dv w hT.1).mono fun e w' h => ⟨h.1, hT.set h.2.1 h.2.2 NE.out.1 NE.out.2⟩))
    try simp only [Act.put, List.getElem_toArray, List.getElem_cons_succ, List.getElem_cons_zero, List.setIfInBounds_toArray, List.set_cons_zero, List.set_cons_succ]
    refine wpT_done (by kernel_rfl) ?_ _
    intro wt hT
    refine NoPanic.normal ?_
    have BZ : Hid (B9 wt bp lb (insM l k v) k pc dv) := hT.1
    have TZ := Lib.hid hT.2.1
    clear hT T0
    have g2 := BZ.out.c2
    have hbt := BZ.out.lt.1
    have KV := Lib.hid (show (k : Int) + (v.length : Int) = ((k + v.length : Nat) : Int) by omega)
    go_wp2_with (refine wpList_runes rfl 9 42 21 _ (tx v) rfl rfl (by kernel_rfl) (by kernel_rfl) (by kernel_rfl) (by rw [tx_size]; omega) ?_; intro v4 w4 o4 r4 hv4 own4; have B4 := Lib.hid (BZ.out.old o4); have T4 := Lib.hid (TZ.out.old o4); have g4 := B4.out.c2; have f4 := B4.out.free 2; rw [runes_tx OV.out] at hv4; obtain ⟨vb4, vc4, rfl⟩ := hv4; rw [List.length_map]; clear o4 r4 own4)
    go_end0
    refine ⟨rfl, ?_⟩
    have e := KV.out
    rw [e]
    exact ⟨⟨_, B4.out.setC (k + v.length)⟩, T4.out.stored bp 2 _ (Or.inl rfl)⟩
  · have hv2 : k = vc := by omega
    subst hv2
    have e9 : l.length - k = 0 := by omega
    refine wp_region_noPanic ?_
    refine wp_region_T (TI w bp lb l (insM l k v) k pc dv vb k) 12 (by kernel_rfl) (T0) ?_
    refine wpT_take (i := 0) (v := ?_) rfl (by kernel_rfl) (by kernel_rfl) (by kernel_rfl) (Or.inl ⟨by rfl, ?_⟩) ?_
    rotate_left
    · (intro b hb w hT; go_simp; exact Lands.value hT)
    try simp only [Act.put, List.getElem_toArray, List.getElem_cons_succ, List.getElem_cons_zero, List.setIfInBounds_toArray, List.set_cons_zero, List.set_cons_succ]
    refine wpT_take (i := 1) (v := ?_) rfl (by kernel_rfl) (by kernel_rfl) (by kernel_rfl) (Or.inl ⟨by rfl, ?_⟩) ?_
    rotate_left
    · (intro b hb w hT; go_simp; exact Lands.value hT)
    try simp only [Act.put, List.getElem_toArray, List.getElem_cons_succ, List.getElem_cons_zero, List.setIfInBounds_toArray, List.set_cons_zero, List.set_cons_succ]
    refine wpT_take (i := 2) (v := ?_) rfl (by kernel_rfl) (by kernel_rfl) (by kernel_rfl) (Or.inl ⟨by rfl, ?_⟩) ?_
    rotate_left
    · (intro b hb w hT; go_simp; exact Lands.value hT)
    try simp only [Act.put, List.getElem_toArray, List.getElem_cons_succ, List.getElem_cons_zero, List.setIfInBounds_toArray, List.set_cons_zero, List.set_cons_succ]
    refine wpT_take (i := 3) (v := ?_) rfl (by kernel_rfl) (by kernel_rfl) (by kernel_rfl) (Or.inl ⟨by rfl, ?_⟩) ?_
    rotate_left
    · (intro b hb w hT; go_simp; exact Lands.value hT)
    try simp only [Act.put, List.getElem_toArray, List.getElem_cons_succ, List.getElem_cons_zero, List.setIfInBounds_toArray, List.set_cons_zero, List.set_cons_succ]
    refine wpT_take (i := 4) (v := .string (tx (l.take k))) rfl (by kernel_rfl) (by kernel_rfl) (by kernel_rfl) (Or.inl ⟨by rfl, ?_⟩) ?_
    · (intro b hb w hT; refine Lands.conv (w1 := w) 42 9 _ _ rfl rfl ((runes_back w 42 9 21 _ _ (by kernel_rfl) (by kernel_rfl) (by kernel_rfl) (hT.2.2.pre hk)).trans (by rw [back_tx (OK.out.take k)])) ?_; exact hT)
    try simp only [Act.put, List.getElem_toArray, List.getElem_cons_succ, List.getElem_cons_zero, List.setIfInBounds_toArray, List.set_cons_zero, List.set_cons_succ]
    refine wpT_take (i := 5) (v := ?_) rfl (by kernel_rfl) (by kernel_rfl) (by kernel_rfl) (Or.inl ⟨by rfl, ?_⟩) ?_
    rotate_left
    · (intro b hb w hT; go_simp; exact Lands.value hT)
    try simp only [Act.put, List.getElem_toArray, List.getElem_cons_succ, List.getElem_cons_zero, List.setIfInBounds_toArray, List.set_cons_zero, List.set_cons_succ]
    refine wpT_take (i := 6) (v := .string (tx (l.take k ++ v))) rfl (by kernel_rfl) (by kernel_rfl) (by kernel_rfl) (Or.inl ⟨by rfl, ?_⟩) ?_
    · (intro b hb w hT; go_simp; rw [if_neg (by omega)]; exact Lands.value hT)
    try simp only [Act.put, List.getElem_toArray, List.getElem_cons_succ, List.getElem_cons_zero, List.setIfInBounds_toArray, List.set_cons_zero, List.set_cons_succ]
    refine wpT_take (i := 7) (v := ?_) rfl (by kernel_rfl) (by kernel_rfl) (by kernel_rfl) (Or.inl ⟨by rfl, ?_⟩) ?_
    rotate_left
    · (intro b hb w hT; go_simp; exact Lands.value hT)
    try simp only [Act.put, List.getElem_toArray, List.getElem_cons_succ, List.getElem_cons_zero, List.setIfInBounds_toArray, List.set_cons_zero, List.set_cons_succ]
    refine wpT_take (i := 8) (v := ?_) rfl (by kernel_rfl) (by kernel_rfl) (by kernel_rfl) (Or.inl ⟨by rfl, ?_⟩) ?_
    rotate_left
    · (intro b hb w hT; go_simp; exact Lands.value hT)
    try simp only [Act.put, List.getElem_toArray, List.getElem_cons_succ, List.getElem_cons_zero, List.setIfInBounds_toArray, List.set_cons_zero, List.set_cons_succ]
    refine wpT_take (i := 9) (v := .slice (some ⟨vb, 0, none⟩) 0 0) rfl (by kernel_rfl) (by kernel_rfl) (by kernel_rfl) (Or.inl ⟨by rfl, ?_⟩) ?_
    · (intro b hb w hT; go_simp; exact Lands.value hT)
    try simp only [Act.put, List.getElem_toArray, List.getElem_cons_succ, List.getElem_cons_zero, List.setIfInBounds_toArray, List.set_cons_zero, List.set_cons_succ]
    refine wpT_take (i := 10) (v := .string (tx (l.drop k))) rfl (by kernel_rfl) (by kernel_rfl) (by kernel_rfl) (Or.inl ⟨by rfl, ?_⟩) ?_
    · (intro b hb w hT; refine Lands.conv (w1 := w) 42 9 _ _ rfl rfl ((runes_back w 42 9 21 _ _ (by kernel_rfl) (by kernel_rfl) (by kernel_rfl) hT.2.2.none).trans (by rw [nil_tx (l := l) (k := k) (by omega)])) ?_; exact hT)
    try simp only [Act.put, List.getElem_toArray, List.getElem_cons_succ, List.getElem_cons_zero, List.setIfInBounds_toArray, List.set_cons_zero, List.set_cons_succ]
    refine wpT_take (i := 11) (v := .string (tx (insM l k v))) rfl (by kernel_rfl) (by kernel_rfl) (by kernel_rfl) (Or.inl ⟨by rfl, ?_⟩) ?_
    · (intro b hb w hT; go_simp; rw [if_neg (by omega)]; exact Lands.value hT)
    try simp only [Act.put, List.getElem_toArray, List.getElem_cons_succ, List.getElem_cons_zero, List.setIfInBounds_toArray, List.set_cons_zero, List.set_cons_succ]
    refine wpT_take (i := 12) (v := .tuple #[]) rfl (by kernel_rfl) (by kernel_rfl) (by kernel_rfl) (Or.inl ⟨by rfl, ?_⟩) ?_
    · (intro b hb w hT; obtain rfl : b = false := hb rfl; go_simp; exact Lands.enter ((setText_any bp lb l (insM l k v) k pc dv w hT.1).mono fun e w' h => ⟨h.1, hT.set h.2.1 h.2.2 NE.out.1 NE.out.2⟩))
    try simp only [Act.put, List.getElem_toArray, List.getElem_cons_succ, List.getElem_cons_zero, List.setIfInBounds_toArray, List.set_cons_zero, List.set_cons_succ]
    refine wpT_done (by kernel_rfl) ?_ _
    intro wt hT
    refine NoPanic.normal ?_
    have BZ : Hid (B9 wt bp lb (insM l k v) k pc dv) := hT.1
    have TZ := Lib.hid hT.2.1
    clear hT T0
    have g2 := BZ.out.c2
    have hbt := BZ.out.lt.1
    have KV := Lib.hid (show (k : Int) + (v.length : Int) = ((k + v.length : Nat) : Int) by omega)
    go_wp2_with (refine wpList_runes rfl 9 42 21 _ (tx v) rfl rfl (by kernel_rfl) (by kernel_rfl) (by kernel_rfl) (by rw [tx_size]; omega) ?_; intro v4 w4 o4 r4 hv4 own4; have B4 := Lib.hid (BZ.out.old o4); have T4 := Lib.hid (TZ.out.old o4); have g4 := B4.out.c2; have f4 := B4.out.free 2; rw [runes_tx OV.out] at hv4; obtain ⟨vb4, vc4, rfl⟩ := hv4; rw [List.length_map]; clear o4 r4 own4)
    go_end0
    refine ⟨rfl, ?_⟩
    have e := KV.out
    rw [e]
    exact ⟨⟨_, B4.out.setC (k + v.length)⟩, T4.out.stored bp 2 _ (Or.inl rfl)⟩
end Go.Proofs.YtleamondilmojaaDoor
