/- The reference's cursor moves. (Printed by mkspecmv.py.) -/
import Derived.Test.YtbkdppfjmfepiaaSpecD
import Derived.Test.YtbkdppfjmfepiaaMovesM
import Derived.Test.YtbkdppfjmfepiaaAnyT
import Derived.Deep.Cut
import Derived.Deep.RegionHeld3
namespace Go.Proofs.Ytbkdppfjmfepiaa
open Go.RowKit
set_option linter.unusedVariables false
set_option linter.unusedSimpArgs false
set_option linter.unnecessarySimpa false
set_option maxRecDepth 100000

theorem mem_splitL : ∀ (l a : Bs), a ∈ splitL l → ∀ c ∈ a, c ∈ l
  | [], a, ha, c, hc => by
    have : splitL [] = [[]] := rfl
    rw [this] at ha
    simp at ha
    subst ha
    cases hc
  | d :: l, a, ha, c, hc => by
    cases h : nl d with
    | true =>
      rw [splitL_nl h] at ha
      rcases List.mem_cons.1 ha with rfl | ha
      · cases hc
      · exact List.mem_cons_of_mem _ (mem_splitL l a ha c hc)
    | false =>
      obtain ⟨b, t, e1, e2⟩ := splitL_cons (l := l) h
      rw [e2] at ha
      rcases List.mem_cons.1 ha with rfl | ha
      · rcases List.mem_cons.1 hc with rfl | hc
        · exact List.mem_cons_self
        · exact List.mem_cons_of_mem _ (mem_splitL l b (by rw [e1]; exact List.mem_cons_self) c hc)
      · exact List.mem_cons_of_mem _ (mem_splitL l a (by rw [e1]; exact List.mem_cons_of_mem _ ha) c hc)
theorem okT_line {l : Bs} (h : okT l) {r : Nat} (hr : r < (splitL l).length) : okT (line (splitL l) r) := by
  have h1 := idx_le hr
  have hn := h.n
  refine ⟨fun c hc => h.a c (mem_splitL l _ ?_ c hc), by omega⟩
  unfold line
  rw [List.getD_eq_getElem?_getD, List.getElem?_eq_getElem hr]
  exact List.getElem_mem hr
set_option maxHeartbeats 1000000 in
theorem index9_any (l : Bs) (z : Int) (c r : Nat) (w : World) (ok : okT l) (hr : r < (splitL l).length) (hz : z ≤ 0 ∧ r = 0 ∨ z = r) (hz2 : -1000000 ≤ z) (hc : c ≤ 1000000) : Calls Try.prog 66 #[.string (tx l), .int .i64 z, .int .i64 c] w fun e w' => e = .returned (.int .i64 (idxP l r c)) ∧ Old w w' := by
  have OK := Lib.hid ok
  have hn := ok.n
  have hsz := splitL_size l
  have hle := idx_le hr
  have hpos := splitL_pos l
  have HR := Lib.hid hr
  clear ok
  go_enter Try.func66, Try.ntmps66
  go_wp2_with (go_at_call 55; refine (lines9_any l _ hn).mono ?_; rintro e w1 ⟨v, rfl, o1, r1⟩; obtain ⟨vb, vc, rfl, b1, b2, b3, b4, cells⟩ := lineVs_at r1 (splitL_pos l); have O1 := Lib.hid o1; have CE := Lib.hid cells; clear o1 r1 cells)
  have hm : max 0 (min z (((splitL l).length : Int) - 1)) = (r : Int) := by omega
  rw [hm]
  clear hm hz hz2
  obtain ⟨L, hL⟩ : ∃ L, L = splitL l := ⟨_, rfl⟩
  have LN : Hid (∀ i, i < (splitL l).length → okT (line (splitL l) i)) := fun i hi => okT_line OK.out hi
  have R : Hid (idxP l r c = start (splitL l) r + min c (line (splitL l) r).length) := rfl
  rw [← hL] at hsz hle hpos HR CE LN R ⊢
  have SB : Hid (∀ i, i ≤ r → start L i ≤ l.length) := fun i hi => by
    obtain ⟨d, hd⟩ : ∃ d, r = i + d := ⟨r - i, by omega⟩
    have h1 := start_mono (L := L) (a := i) d (by have := HR.out; omega)
    rw [← hd] at h1
    omega
  clear hL hr
  have hrl : r < L.length := HR.out
  go_loopw [8, 9] (fun s8 s9 wr => ∃ i : Nat, i ≤ r ∧ s8 = .int .i64 (start L i) ∧ s9 = .int .i64 i ∧ Old w1 wr) (fun _ s9 _ => r - (intOf s9).toNat)
  case atStart => exact ⟨0, Nat.zero_le _, by rw [start_zero]; rfl, rfl, Old.refl _⟩
  case round =>
    obtain ⟨i, hi, rfl, rfl, hold⟩ := hrel
    have OO := Lib.hid hold
    clear hold
    by_cases hlt : i < r
    · have hil : i < L.length := by omega
      have g0 := (OO.out.cell (o := i) b2).trans (CE.out i hil)
      have ST := start_succ hil
      have sb1 := SB.out i hi
      have sb2 := SB.out (i + 1) (by omega)
      have okm := LN.out i hil
      have hn2 := okm.n
      obtain ⟨m, hm⟩ : ∃ m, m = line L i := ⟨_, rfl⟩
      rw [← hm] at g0 ST okm hn2
      have OM := Lib.hid okm
      have HST := Lib.hid ST
      clear hm okm
      generalize start L i = a at HST ST sb1 ⊢
      have hb9 : a + (m.length + 1) ≤ l.length := by omega
      clear ST sb2
      go_wp2_with (go_at_call 64; refine (count_any m _ OM.out).mono ?_; rintro e w4 ⟨rfl, o4⟩; have O4 := Lib.hid (OO.out.trans o4); clear o4)
      refine ⟨⟨i + 1, by omega, ?_, by go_num, O4.out⟩, ?_⟩
      · rw [HST.out]; congr 1
      · simp only [intOf]; omega
    · obtain rfl : i = r := by omega
      have g0 := (OO.out.cell (o := i) b2).trans (CE.out i hrl)
      have okm := LN.out i hrl
      have hn2 := okm.n
      have sb1 := SB.out i (Nat.le_refl _)
      obtain ⟨m, hm⟩ : ∃ m, m = line L i := ⟨_, rfl⟩
      rw [← hm] at g0 okm hn2 R
      have OM := Lib.hid okm
      clear hm okm
      generalize start L i = a at R sb1 ⊢
      go_wp2_with (go_at_call 64; refine (count_any m _ OM.out).mono ?_; rintro e w4 ⟨rfl, o4⟩; have O4 := Lib.hid (OO.out.trans o4); clear o4)
      go_ret
      exact ⟨ret_int (by rw [R.out]; omega), O1.out.trans O4.out⟩
/-- A document's cells stay. -/
def TP (l : Bs) (k d : Nat) (W0 : World) (w : World) : Prop := w.cell? ⟨d, 0, none⟩ = some (.string (tx l)) ∧ w.cell? ⟨d, 1, none⟩ = some (.int .i64 k) ∧ Old W0 w
theorem TP.old {l : Bs} {k d : Nat} {W0 w w' : World} (h : TP l k d W0 w) (o : Old w w') : TP l k d W0 w' :=
  ⟨(o.cell (World.block_lt_of_cell? w _ h.1)).trans h.1, (o.cell (World.block_lt_of_cell? w _ h.1)).trans h.2.1, h.2.2.trans o⟩
section
variable (l : Bs) (k : Nat) (w : World) (hk : k ≤ l.length) (ok : okT l)
include hk ok
theorem left9_any (n : Nat) (hn : n ≤ 1000000) : Calls Try.prog 26 #[.agg #[.string (tx l), .int .i64 k], .int .i64 n] w fun e w' => e = .returned (.int .i64 (-((min n (lineB l k).length : Nat) : Int))) ∧ Old w w' := by
  have OK := Lib.hid ok
  have hb := lineB_len hk
  have hm := ok.n
  have CO := fun w' => col9_any l k w' hk ok
  obtain ⟨c, hc⟩ : ∃ c, c = (lineB l k).length := ⟨_, rfl⟩
  rw [← hc] at hb CO ⊢
  have CC := Lib.hid CO
  clear ok hc CO
  go_enter Try.func26, Try.ntmps26
  go_wp2_with (go_at_call 63; refine (CC.out _).mono ?_; rintro e w1 ⟨rfl, o1⟩; have O1 := Lib.hid ((Old.alloc w _).trans o1); clear o1)
  go_ret
  exact ⟨ret_int (by omega), O1.out⟩
theorem right9_any (n : Nat) (hn : n ≤ 1000000) : Calls Try.prog 27 #[.agg #[.string (tx l), .int .i64 k], .int .i64 n] w fun e w' => e = .returned (.int .i64 (min n (lineA l k).length : Nat)) ∧ Old w w' := by
  have OK := Lib.hid ok
  have OKA := Lib.hid ((ok.drop k).take (flen nl (l.drop k)))
  have hm := OKA.out.n
  have LO := fun w' => la_any l k w' hk ok
  obtain ⟨m, hc⟩ : ∃ m, m = lineA l k := ⟨_, rfl⟩
  have OM : Hid (okT m) := by rw [hc]; exact OKA.out
  rw [← hc] at LO ⊢
  have LL := Lib.hid LO
  have hn2 := OM.out.n
  clear ok hc LO OKA hm
  go_enter Try.func27, Try.ntmps27
  go_wp2_with (first
    | (go_at_call 65; refine (LL.out _).mono ?_; rintro e w1 ⟨rfl, o1⟩; have O1 := Lib.hid ((Old.alloc w _).trans o1); clear o1)
    | (go_at_call 64; refine (count_any m _ OM.out).mono ?_; rintro e w2 ⟨rfl, o2⟩; have O2 := Lib.hid (O1.out.trans o2); clear o2))
  go_ret
  exact ⟨ret_int (by omega), O2.out⟩
set_option maxHeartbeats 1000000 in
theorem up9_any (n c : Nat) (hn : n ≤ 1000000) (hc : c ≤ 1000000) : Calls Try.prog 28 #[.agg #[.string (tx l), .int .i64 k], .int .i64 n, .int .i64 c] w fun e w' => e = .returned (.int .i64 ((idxP l (row l k - n) c : Int) - (k : Int))) ∧ Old w w' := by
  have OK := Lib.hid ok
  have hm := ok.n
  have hr := (row_spec l k hk).1
  have hsz := splitL_size l
  have hR : Hid (row l k - n < (splitL l).length) := by unfold Hid; omega
  have hle := idxP_le c hR.out
  have RW := Lib.hid (fun w' => row9_any l k w' hk ok)
  obtain ⟨r, hr_⟩ : ∃ r, r = row l k := ⟨_, rfl⟩
  have W0 : Hid (IntKind.i64.wrap ((idxP l (r - n) c : Int) - (k : Int)) = (idxP l (r - n) c : Int) - (k : Int)) := by unfold Hid; rw [hr_]; exact IntWalk.i64_in _ (by omega)
  have W1 : Hid (IntKind.i64.wrap ((r : Int) - n) = (r : Int) - n) := IntWalk.i64_in _ (by omega)
  rw [← hr_] at hR RW hr hle ⊢
  have IX := Lib.hid (fun w' => index9_any l ((r : Int) - n) c (r - n) w' ok hR.out (by omega) (by omega) hc)
  clear ok hr_
  obtain ⟨d0, d1, d2⟩ := doc_cells l k w _ rfl
  go_enter Try.func28, Try.ntmps28
  go_upto_region 1 with fail
  generalize hW : w.alloc (.cells #[.string (tx l), .int .i64 k] 47) = Wd at d0 d1 d2 ⊢
  obtain ⟨d, hd⟩ : ∃ d, d = w.heap.size := ⟨_, rfl⟩
  rw [← hd] at d0 d1 ⊢
  have T0 : TP l k d w Wd.drew := TP.old ⟨d0, d1, d2⟩ (Old.drew _)
  clear hW hd d0 d1 d2
  refine wp_region_noPanic ?_
  refine wp_region_T (fun _ => TP l k d w) 0 (by kernel_rfl) T0 ?_
  refine wpT_take (i := 0) (v := ?_) rfl (by kernel_rfl) (by kernel_rfl) (by kernel_rfl) (Or.inl ⟨by rfl, ?_⟩) ?_
  rotate_left
  · (intro b hb w hT; have h0 := hT.1; have h1 := hT.2.1; go_simp; exact Lands.value hT)
  try simp only [Act.put, List.getElem_toArray, List.getElem_cons_succ, List.getElem_cons_zero, List.setIfInBounds_toArray, List.set_cons_zero, List.set_cons_succ]
  refine wpT_take (i := 1) (v := ?_) rfl (by kernel_rfl) (by kernel_rfl) (by kernel_rfl) (Or.inl ⟨by rfl, ?_⟩) ?_
  rotate_left
  · (intro b hb w hT; have h0 := hT.1; have h1 := hT.2.1; go_simp; exact Lands.value hT)
  try simp only [Act.put, List.getElem_toArray, List.getElem_cons_succ, List.getElem_cons_zero, List.setIfInBounds_toArray, List.set_cons_zero, List.set_cons_succ]
  refine wpT_take (i := 2) (v := ?_) rfl (by kernel_rfl) (by kernel_rfl) (by kernel_rfl) (Or.inl ⟨by rfl, ?_⟩) ?_
  rotate_left
  · (intro b hb w hT; have h0 := hT.1; have h1 := hT.2.1; go_simp; exact Lands.value hT)
  try simp only [Act.put, List.getElem_toArray, List.getElem_cons_succ, List.getElem_cons_zero, List.setIfInBounds_toArray, List.set_cons_zero, List.set_cons_succ]
  refine wpT_take (i := 3) (v := .int .i64 r) rfl (by kernel_rfl) (by kernel_rfl) (by kernel_rfl) (Or.inl ⟨by rfl, ?_⟩) ?_
  · (intro b hb w hT; go_simp; exact Lands.call (RW.out _) fun w' o => TP.old hT o)
  try simp only [Act.put, List.getElem_toArray, List.getElem_cons_succ, List.getElem_cons_zero, List.setIfInBounds_toArray, List.set_cons_zero, List.set_cons_succ]
  refine wpT_take (i := 4) (v := ?_) rfl (by kernel_rfl) (by kernel_rfl) (by kernel_rfl) (Or.inl ⟨by rfl, ?_⟩) ?_
  rotate_left
  · (intro b hb w hT; go_simp; exact Lands.value hT)
  try simp only [Act.put, List.getElem_toArray, List.getElem_cons_succ, List.getElem_cons_zero, List.setIfInBounds_toArray, List.set_cons_zero, List.set_cons_succ]
  refine wpT_take (i := 5) (v := .int .i64 ((r : Int) - n)) rfl (by kernel_rfl) (by kernel_rfl) (by kernel_rfl) (Or.inl ⟨by rfl, ?_⟩) ?_
  · (intro b hb w hT; have e := W1.out; go_simp; exact Lands.value hT)
  try simp only [Act.put, List.getElem_toArray, List.getElem_cons_succ, List.getElem_cons_zero, List.setIfInBounds_toArray, List.set_cons_zero, List.set_cons_succ]
  refine wpT_take (i := 6) (v := ?_) rfl (by kernel_rfl) (by kernel_rfl) (by kernel_rfl) (Or.inl ⟨by rfl, ?_⟩) ?_
  rotate_left
  · (intro b hb w hT; go_simp; exact Lands.value hT)
  try simp only [Act.put, List.getElem_toArray, List.getElem_cons_succ, List.getElem_cons_zero, List.setIfInBounds_toArray, List.set_cons_zero, List.set_cons_succ]
  refine wpT_take (i := 7) (v := .int .i64 (idxP l (r - n) c)) rfl (by kernel_rfl) (by kernel_rfl) (by kernel_rfl) (Or.inl ⟨by rfl, ?_⟩) ?_
  · (intro b hb w hT; go_simp; exact Lands.call (IX.out _) fun w' o => TP.old hT o)
  try simp only [Act.put, List.getElem_toArray, List.getElem_cons_succ, List.getElem_cons_zero, List.setIfInBounds_toArray, List.set_cons_zero, List.set_cons_succ]
  refine wpT_take (i := 8) (v := ?_) rfl (by kernel_rfl) (by kernel_rfl) (by kernel_rfl) (Or.inl ⟨by rfl, ?_⟩) ?_
  rotate_left
  · (intro b hb w hT; have h0 := hT.1; have h1 := hT.2.1; go_simp; exact Lands.value hT)
  try simp only [Act.put, List.getElem_toArray, List.getElem_cons_succ, List.getElem_cons_zero, List.setIfInBounds_toArray, List.set_cons_zero, List.set_cons_succ]
  refine wpT_take (i := 9) (v := ?_) rfl (by kernel_rfl) (by kernel_rfl) (by kernel_rfl) (Or.inl ⟨by rfl, ?_⟩) ?_
  rotate_left
  · (intro b hb w hT; have h0 := hT.1; have h1 := hT.2.1; go_simp; exact Lands.value hT)
  try simp only [Act.put, List.getElem_toArray, List.getElem_cons_succ, List.getElem_cons_zero, List.setIfInBounds_toArray, List.set_cons_zero, List.set_cons_succ]
  refine wpT_take (i := 10) (v := .int .i64 (IntKind.i64.wrap ((idxP l (r - n) c : Int) - (k : Int)))) rfl (by kernel_rfl) (by kernel_rfl) (by kernel_rfl) (Or.inl ⟨by rfl, ?_⟩) ?_
  · (intro b hb w hT; go_simp; exact Lands.value hT)
  try simp only [Act.put, List.getElem_toArray, List.getElem_cons_succ, List.getElem_cons_zero, List.setIfInBounds_toArray, List.set_cons_zero, List.set_cons_succ]
  refine wpT_take (i := 11) (v := ?_) rfl (by kernel_rfl) (by kernel_rfl) (by kernel_rfl) (Or.inl ⟨by rfl, ?_⟩) ?_
  rotate_left
  · (intro b hb w hT; go_simp; exact Lands.value hT)
  try simp only [Act.put, List.getElem_toArray, List.getElem_cons_succ, List.getElem_cons_zero, List.setIfInBounds_toArray, List.set_cons_zero, List.set_cons_succ]
  refine wpT_done (by kernel_rfl) ?_ _
  intro wt hT
  refine NoPanic.normal ?_
  have OT := Lib.hid hT.2.2
  clear hT T0
  go_wp2_with fail
  go_ret
  exact ⟨ret_int W0.out.symm, OT.out⟩
set_option maxHeartbeats 1000000 in
theorem down9_any (n c : Nat) (hn : n ≤ 1000000) (hc : c ≤ 1000000) (hb : row l k + n < (splitL l).length) : Calls Try.prog 29 #[.agg #[.string (tx l), .int .i64 k], .int .i64 n, .int .i64 c] w fun e w' => e = .returned (.int .i64 ((idxP l (row l k + n) c : Int) - (k : Int))) ∧ Old w w' := by
  have OK := Lib.hid ok
  have hm := ok.n
  have hr := (row_spec l k hk).1
  have hsz := splitL_size l
  have hR : Hid (row l k + n < (splitL l).length) := by unfold Hid; omega
  have hle := idxP_le c hR.out
  have RW := Lib.hid (fun w' => row9_any l k w' hk ok)
  obtain ⟨r, hr_⟩ : ∃ r, r = row l k := ⟨_, rfl⟩
  have W0 : Hid (IntKind.i64.wrap ((idxP l (r + n) c : Int) - (k : Int)) = (idxP l (r + n) c : Int) - (k : Int)) := by unfold Hid; rw [hr_]; exact IntWalk.i64_in _ (by omega)
  have W1 : Hid (IntKind.i64.wrap ((r : Int) + n) = (r : Int) + n) := IntWalk.i64_in _ (by omega)
  rw [← hr_] at hR RW hr hle ⊢
  have IX := Lib.hid (fun w' => index9_any l ((r : Int) + n) c (r + n) w' ok hR.out (by omega) (by omega) hc)
  clear ok hr_ hb
  obtain ⟨d0, d1, d2⟩ := doc_cells l k w _ rfl
  go_enter Try.func29, Try.ntmps29
  go_upto_region 1 with fail
  generalize hW : w.alloc (.cells #[.string (tx l), .int .i64 k] 47) = Wd at d0 d1 d2 ⊢
  obtain ⟨d, hd⟩ : ∃ d, d = w.heap.size := ⟨_, rfl⟩
  rw [← hd] at d0 d1 ⊢
  have T0 : TP l k d w Wd.drew := TP.old ⟨d0, d1, d2⟩ (Old.drew _)
  clear hW hd d0 d1 d2
  refine wp_region_noPanic ?_
  refine wp_region_T (fun _ => TP l k d w) 0 (by kernel_rfl) T0 ?_
  refine wpT_take (i := 0) (v := ?_) rfl (by kernel_rfl) (by kernel_rfl) (by kernel_rfl) (Or.inl ⟨by rfl, ?_⟩) ?_
  rotate_left
  · (intro b hb w hT; have h0 := hT.1; have h1 := hT.2.1; go_simp; exact Lands.value hT)
  try simp only [Act.put, List.getElem_toArray, List.getElem_cons_succ, List.getElem_cons_zero, List.setIfInBounds_toArray, List.set_cons_zero, List.set_cons_succ]
  refine wpT_take (i := 1) (v := ?_) rfl (by kernel_rfl) (by kernel_rfl) (by kernel_rfl) (Or.inl ⟨by rfl, ?_⟩) ?_
  rotate_left
  · (intro b hb w hT; have h0 := hT.1; have h1 := hT.2.1; go_simp; exact Lands.value hT)
  try simp only [Act.put, List.getElem_toArray, List.getElem_cons_succ, List.getElem_cons_zero, List.setIfInBounds_toArray, List.set_cons_zero, List.set_cons_succ]
  refine wpT_take (i := 2) (v := ?_) rfl (by kernel_rfl) (by kernel_rfl) (by kernel_rfl) (Or.inl ⟨by rfl, ?_⟩) ?_
  rotate_left
  · (intro b hb w hT; have h0 := hT.1; have h1 := hT.2.1; go_simp; exact Lands.value hT)
  try simp only [Act.put, List.getElem_toArray, List.getElem_cons_succ, List.getElem_cons_zero, List.setIfInBounds_toArray, List.set_cons_zero, List.set_cons_succ]
  refine wpT_take (i := 3) (v := .int .i64 r) rfl (by kernel_rfl) (by kernel_rfl) (by kernel_rfl) (Or.inl ⟨by rfl, ?_⟩) ?_
  · (intro b hb w hT; go_simp; exact Lands.call (RW.out _) fun w' o => TP.old hT o)
  try simp only [Act.put, List.getElem_toArray, List.getElem_cons_succ, List.getElem_cons_zero, List.setIfInBounds_toArray, List.set_cons_zero, List.set_cons_succ]
  refine wpT_take (i := 4) (v := ?_) rfl (by kernel_rfl) (by kernel_rfl) (by kernel_rfl) (Or.inl ⟨by rfl, ?_⟩) ?_
  rotate_left
  · (intro b hb w hT; go_simp; exact Lands.value hT)
  try simp only [Act.put, List.getElem_toArray, List.getElem_cons_succ, List.getElem_cons_zero, List.setIfInBounds_toArray, List.set_cons_zero, List.set_cons_succ]
  refine wpT_take (i := 5) (v := .int .i64 ((r : Int) + n)) rfl (by kernel_rfl) (by kernel_rfl) (by kernel_rfl) (Or.inl ⟨by rfl, ?_⟩) ?_
  · (intro b hb w hT; have e := W1.out; go_simp; exact Lands.value hT)
  try simp only [Act.put, List.getElem_toArray, List.getElem_cons_succ, List.getElem_cons_zero, List.setIfInBounds_toArray, List.set_cons_zero, List.set_cons_succ]
  refine wpT_take (i := 6) (v := ?_) rfl (by kernel_rfl) (by kernel_rfl) (by kernel_rfl) (Or.inl ⟨by rfl, ?_⟩) ?_
  rotate_left
  · (intro b hb w hT; go_simp; exact Lands.value hT)
  try simp only [Act.put, List.getElem_toArray, List.getElem_cons_succ, List.getElem_cons_zero, List.setIfInBounds_toArray, List.set_cons_zero, List.set_cons_succ]
  refine wpT_take (i := 7) (v := .int .i64 (idxP l (r + n) c)) rfl (by kernel_rfl) (by kernel_rfl) (by kernel_rfl) (Or.inl ⟨by rfl, ?_⟩) ?_
  · (intro b hb w hT; go_simp; exact Lands.call (IX.out _) fun w' o => TP.old hT o)
  try simp only [Act.put, List.getElem_toArray, List.getElem_cons_succ, List.getElem_cons_zero, List.setIfInBounds_toArray, List.set_cons_zero, List.set_cons_succ]
  refine wpT_take (i := 8) (v := ?_) rfl (by kernel_rfl) (by kernel_rfl) (by kernel_rfl) (Or.inl ⟨by rfl, ?_⟩) ?_
  rotate_left
  · (intro b hb w hT; have h0 := hT.1; have h1 := hT.2.1; go_simp; exact Lands.value hT)
  try simp only [Act.put, List.getElem_toArray, List.getElem_cons_succ, List.getElem_cons_zero, List.setIfInBounds_toArray, List.set_cons_zero, List.set_cons_succ]
  refine wpT_take (i := 9) (v := ?_) rfl (by kernel_rfl) (by kernel_rfl) (by kernel_rfl) (Or.inl ⟨by rfl, ?_⟩) ?_
  rotate_left
  · (intro b hb w hT; have h0 := hT.1; have h1 := hT.2.1; go_simp; exact Lands.value hT)
  try simp only [Act.put, List.getElem_toArray, List.getElem_cons_succ, List.getElem_cons_zero, List.setIfInBounds_toArray, List.set_cons_zero, List.set_cons_succ]
  refine wpT_take (i := 10) (v := .int .i64 (IntKind.i64.wrap ((idxP l (r + n) c : Int) - (k : Int)))) rfl (by kernel_rfl) (by kernel_rfl) (by kernel_rfl) (Or.inl ⟨by rfl, ?_⟩) ?_
  · (intro b hb w hT; go_simp; exact Lands.value hT)
  try simp only [Act.put, List.getElem_toArray, List.getElem_cons_succ, List.getElem_cons_zero, List.setIfInBounds_toArray, List.set_cons_zero, List.set_cons_succ]
  refine wpT_take (i := 11) (v := ?_) rfl (by kernel_rfl) (by kernel_rfl) (by kernel_rfl) (Or.inl ⟨by rfl, ?_⟩) ?_
  rotate_left
  · (intro b hb w hT; go_simp; exact Lands.value hT)
  try simp only [Act.put, List.getElem_toArray, List.getElem_cons_succ, List.getElem_cons_zero, List.setIfInBounds_toArray, List.set_cons_zero, List.set_cons_succ]
  refine wpT_done (by kernel_rfl) ?_ _
  intro wt hT
  refine NoPanic.normal ?_
  have OT := Lib.hid hT.2.2
  clear hT T0
  go_wp2_with fail
  go_ret
  exact ⟨ret_int W0.out.symm, OT.out⟩
end
end Go.Proofs.Ytbkdppfjmfepiaa
