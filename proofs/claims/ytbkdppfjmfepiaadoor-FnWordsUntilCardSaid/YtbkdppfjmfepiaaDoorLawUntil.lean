/- FnWordsUntil: the words next to a cursor by separators are the reference's. (Printed by mklawuntil.py.) -/
import Derived.Test.YtbkdppfjmfepiaaDoorUntil
import Derived.Test.YtbkdppfjmfepiaaDoorSpecB
import Derived.Test.YtbkdppfjmfepiaaDoorAnyT
namespace Go.Proofs.YtbkdppfjmfepiaaDoor
open Go.RowKit
set_option linter.unusedVariables false
set_option linter.unusedSimpArgs false
set_option linter.unnecessarySimpa false
set_option maxRecDepth 100000

/-- The document's cells stay. -/
def TW (l : Bs) (k d : Nat) (W0 : World) (w : World) : Prop := w.cell? ⟨d, 0, none⟩ = some (.string (tx l)) ∧ w.cell? ⟨d, 1, none⟩ = some (.int .i64 k) ∧ Old W0 w
theorem TW.old {l : Bs} {k d : Nat} {W0 w w' : World} (h : TW l k d W0 w) (o : Old w w') : TW l k d W0 w' :=
  ⟨(o.cell (World.block_lt_of_cell? w _ h.1)).trans h.1, (o.cell (World.block_lt_of_cell? w _ h.1)).trans h.2.1, h.2.2.trans o⟩

theorem empty_ba {s : ByteArray} (h : s.size = 0) : s = ⟨#[]⟩ := by
  have : bs s = [] := List.eq_nil_of_length_eq_zero (by rw [← h, ← tx_size (bs s), tx_bs])
  rw [← tx_bs s, this]; rfl
theorem ba_ne {s : ByteArray} (h : 0 < s.size) : (s.toList == []) = false := by
  have h2 := tx_ne (S := bs s) (by rw [← tx_size, tx_bs]; exact h)
  rw [tx_bs] at h2; exact h2
theorem ba_ne2 {s : ByteArray} (h : 0 < s.size) : s.toList.isEmpty = false := by
  have h2 := tx_ne2 (S := bs s) (by rw [← tx_size, tx_bs]; exact h)
  rw [tx_bs] at h2; exact h2
set_option maxHeartbeats 4000000 in
theorem lawUntil_any (s : ByteArray) (z : Int) (q : ByteArray) (w : World) (hs : s.size ≤ 9223372036854775807) (hz : (Lit.int .i64 z).wf = true) (hq : q.size ≤ 140737488351232) :
    Calls Tryd.prog 3 #[.agg #[.string s, .int .i64 z], .string q] w fun e w' => e = .returned (.bool true) ∧ Below w.heap.size w w' := by
  have C0 : Hid (∀ w0 w', w0 = w.alloc (.cells #[.string s, .int .i64 z] 23) → Old w0 w' → w'.cell? ⟨w.heap.size, 0, none⟩ = some (.string s) ∧ w'.cell? ⟨w.heap.size, 1, none⟩ = some (.int .i64 z)) := fun w0 w' e o => by
    subst e
    have c0 := (World.cell?_alloc_mark w #[.string s, .int .i64 z] 23 (0, 0) 0).trans rfl
    have c1 := (World.cell?_alloc_mark w #[.string s, .int .i64 z] 23 (0, 0) 1).trans rfl
    have hlt := World.block_lt_of_cell? _ _ c0
    exact ⟨(o.cell hlt).trans c0, (o.cell hlt).trans c1⟩
  have O0 := Lib.hid (Old.alloc w (.cells #[.string s, .int .i64 z] 23))
  go_enter Tryd.func3, Tryd.ntmps3
  go_upto_region 1 with fail
  generalize hW : w.alloc (.cells #[.string s, .int .i64 z] 23) = Wd at O0 ⊢
  obtain ⟨d, hd⟩ : ∃ d, d = w.heap.size := ⟨_, rfl⟩
  rw [← hd]
  have DC : Hid (∀ w', Old Wd w' → w'.cell? ⟨d, 0, none⟩ = some (.string s) ∧ w'.cell? ⟨d, 1, none⟩ = some (.int .i64 z)) := fun w' o => by
    rw [hd]; exact C0.out _ w' hW.symm o
  clear hW hd C0
  obtain ⟨x0, x1⟩ := DC.out Wd (Old.refl _)
  by_cases h1 : s.size ≤ 2147483647
  · have d1 : Hid (decide (s.size ≤ 2147483647) = true) := by unfold Hid; simpa using h1
    by_cases h3 : q.size ≤ 2147483647
    · have d3 : decide ((q.size : Int) > 2147483647) = false := by simp; omega
      by_cases h2 : drB s z = true ∧ asc10 q = true ∧ 0 < q.size ∧ q.size ≤ 10
      · obtain ⟨e2, e3, h4, h5⟩ := h2
        have H2 := Lib.hid e2
        have H3 := Lib.hid e3
        obtain ⟨l, rfl⟩ : ∃ l, s = tx l := ⟨bs s, (tx_bs s).symm⟩
        obtain ⟨S, rfl⟩ : ∃ S, q = tx S := ⟨bs q, (tx_bs q).symm⟩
        obtain ⟨k, rfl, hk, ok, hl⟩ := dr_ok e2
        have okS : okT S := by
          have h := asc10_iff.1 e3
          exact ⟨asc_tx h.1, by rw [← tx_size S]; omega⟩
        have hsS : (tx S).size = S.length := tx_size S
        have h0S : 0 < S.length := by omega
        have OK := Lib.hid ok
        have OKS := Lib.hid okS
        have d5 : decide (((tx S).size : Int) > 10) = false := by simp; omega
        have d6 : decide ((S.length : Int) > 10) = false := by simp; omega
        have n1 : ((tx S).toList == []) = false := ba_ne (by omega)
        have n2 : (tx S).toList.isEmpty = false := ba_ne2 (by omega)
        have hnS := okS.n
        clear e2 e3 ok okS d3
        go_upto_region 5 with (first
          | (go_at_call 6; refine (fits_any (tx l) k _ (by omega)).mono ?_; rw [d1.out]; rintro e w1 ⟨rfl, o1⟩; have P1 := Lib.hid o1; have D1 := DC.out _ o1; obtain ⟨y0, y1⟩ := D1; clear o1)
          | (go_at_call 7; refine (right_any (tx l) k _ (by omega)).mono ?_; rw [H2.out]; rintro e w2 ⟨rfl, o2⟩; have P2 := Lib.hid (P1.out.trans o2); clear o2)
          | (go_at_call 8; refine (ascii_any _ _ (by omega)).mono ?_; rw [H3.out]; rintro e w3 ⟨rfl, h3⟩; obtain rfl : w2 = w3 := h3))
        have T0 : TW l k d w2 w2.drew := by
          obtain ⟨y0, y1⟩ := DC.out _ P2.out
          exact ⟨y0, y1, Old.drew _⟩
        have BE0 := fun w' => before_any l k w' hk OK.out
        have AF0 := fun w' => after_any l k w' hk OK.out
        have WU0 := fun w' => wu_any l k S w' hk OK.out OKS.out h0S
        have b1 := wS_le (setP S false) (l.take k)
        have b2 := wE_le (setP S false) (l.drop k)
        have b3 := wSS_le (setP S false) (setP S true) (l.take k)
        have b4 := wES_le (setP S false) (setP S true) (l.drop k)
        have SF0 := fun w' => startF_any (l.take k) S w' (OK.out.take k).n hnS
        have ST0 := fun w' => startT_any (l.take k) S w' (OK.out.take k).n hnS
        have EF0 := fun w' => endF_any (l.drop k) S w' (OK.out.drop k).n hnS
        have ET0 := fun w' => endT_any (l.drop k) S w' (OK.out.drop k).n hnS
        unfold w1t w2t w3t w4t at WU0
        have hn1 := (OK.out.take k).n
        have hn2 := (OK.out.drop k).n
        generalize l.take k = m1 at BE0 AF0 WU0 b1 b2 b3 b4 SF0 ST0 EF0 ET0 hn1
        generalize l.drop k = m2 at BE0 AF0 WU0 b1 b2 b3 b4 SF0 ST0 EF0 ET0 hn2
        generalize wS (setP S false) m1 = q1 at WU0 b1 SF0
        generalize wE (setP S false) m2 = q2 at WU0 b2 EF0
        generalize wSS (setP S false) (setP S true) m1 = q3 at WU0 b3 ST0
        generalize wES (setP S false) (setP S true) m2 = q4 at WU0 b4 ET0
        have BE := Lib.hid BE0
        have AF := Lib.hid AF0
        have WU := Lib.hid WU0
        have SF := Lib.hid SF0
        have ST := Lib.hid ST0
        have EF := Lib.hid EF0
        have ET := Lib.hid ET0
        clear BE0 AF0 WU0 SF0 ST0 EF0 ET0
        refine wp_region_noPanic ?_
        refine wp_region_T (fun _ => TW l k d w2) 0 (by kernel_rfl) T0 ?_
        refine wpT_take (i := 0) (v := ?_) rfl (by kernel_rfl) (by kernel_rfl) (by kernel_rfl) (Or.inl ⟨by rfl, ?_⟩) ?_
        rotate_left
        · (intro b hb w hT; have h0 := hT.1; have h1 := hT.2.1; go_simp; exact Lands.value hT)
        try simp only [Act.put, List.getElem_toArray, List.getElem_cons_succ, List.getElem_cons_zero, List.setIfInBounds_toArray, List.set_cons_zero, List.set_cons_succ]
        refine wpT_take (i := 1) (v := .string (tx m1)) rfl (by kernel_rfl) (by kernel_rfl) (by kernel_rfl) (Or.inl ⟨by rfl, ?_⟩) ?_
        · (intro b hb w hT; go_simp; exact Lands.call (BE.out _) fun w' o => TW.old hT o)
        try simp only [Act.put, List.getElem_toArray, List.getElem_cons_succ, List.getElem_cons_zero, List.setIfInBounds_toArray, List.set_cons_zero, List.set_cons_succ]
        refine wpT_take (i := 2) (v := ?_) rfl (by kernel_rfl) (by kernel_rfl) (by kernel_rfl) (Or.inl ⟨by rfl, ?_⟩) ?_
        rotate_left
        · (intro b hb w hT; have h0 := hT.1; have h1 := hT.2.1; go_simp; exact Lands.value hT)
        try simp only [Act.put, List.getElem_toArray, List.getElem_cons_succ, List.getElem_cons_zero, List.setIfInBounds_toArray, List.set_cons_zero, List.set_cons_succ]
        refine wpT_take (i := 3) (v := .string (tx m2)) rfl (by kernel_rfl) (by kernel_rfl) (by kernel_rfl) (Or.inl ⟨by rfl, ?_⟩) ?_
        · (intro b hb w hT; go_simp; exact Lands.call (AF.out _) fun w' o => TW.old hT o)
        try simp only [Act.put, List.getElem_toArray, List.getElem_cons_succ, List.getElem_cons_zero, List.setIfInBounds_toArray, List.set_cons_zero, List.set_cons_succ]
        refine wpT_take (i := 4) (v := ?_) rfl (by kernel_rfl) (by kernel_rfl) (by kernel_rfl) (Or.inl ⟨by rfl, ?_⟩) ?_
        rotate_left
        · (intro b hb w hT; go_simp; exact Lands.value hT)
        try simp only [Act.put, List.getElem_toArray, List.getElem_cons_succ, List.getElem_cons_zero, List.setIfInBounds_toArray, List.set_cons_zero, List.set_cons_succ]
        refine wpT_take (i := 5) (v := ?_) rfl (by kernel_rfl) (by kernel_rfl) (by kernel_rfl) (Or.inl ⟨by rfl, ?_⟩) ?_
        rotate_left
        · (intro b hb w hT; go_simp; exact Lands.value hT)
        try simp only [Act.put, List.getElem_toArray, List.getElem_cons_succ, List.getElem_cons_zero, List.setIfInBounds_toArray, List.set_cons_zero, List.set_cons_succ]
        refine wpT_done (by kernel_rfl) ?_ _
        intro wt hT
        refine NoPanic.normal ?_
        obtain ⟨g0, g1, G2⟩ := hT
        have s1 : (tx m1).size = m1.length := tx_size m1
        have s2 : (tx m2).size = m2.length := tx_size m2
        have x1 : (tx m1).extract q1 m1.length = tx (m1.drop q1) := ext_post
        have x2 : (tx m2).extract 0 q2 = tx (m2.take q2) := ext_pre
        have x3 : (tx m1).extract q3 m1.length = tx (m1.drop q3) := ext_post
        have x4 : (tx m2).extract 0 q4 = tx (m2.take q4) := ext_pre
        have i1 : (q1 : Int) ≤ m1.length := by omega
        have i2 : (q2 : Int) ≤ m2.length := by omega
        have i3 : (q3 : Int) ≤ m1.length := by omega
        have i4 : (q4 : Int) ≤ m2.length := by omega
        have G := Lib.hid (O0.out.trans (P2.out.trans G2))
        clear T0 G2
        go_wp2_with (first
          | (go_at_call 11; refine (WU.out _).mono ?_; rintro e w4 ⟨rfl, o4⟩; have O4 := Lib.hid (G.out.trans o4); clear o4)
          | ((with_reducible refine (SF.out _).mono ?_); rintro e w5 ⟨rfl, h5⟩; obtain rfl : w4 = w5 := h5.symm)
          | ((with_reducible refine (ST.out _).mono ?_); rintro e w5 ⟨rfl, h5⟩; obtain rfl : w4 = w5 := h5.symm)
          | ((with_reducible refine (EF.out _).mono ?_); rintro e w5 ⟨rfl, h5⟩; obtain rfl : w4 = w5 := h5.symm)
          | ((with_reducible refine (ET.out _).mono ?_); rintro e w5 ⟨rfl, h5⟩; obtain rfl : w4 = w5 := h5.symm))
        go_ret
        exact ⟨rfl, O4.out⟩
      · cases e2 : drB s z with
        | false =>
          have H2 := Lib.hid e2
          clear e2 h2
          go_wp2_with (first
            | (go_at_call 6; refine (fits_any s z _ (by omega)).mono ?_; rw [d1.out]; rintro e w1 ⟨rfl, o1⟩; have O1 := Lib.hid (O0.out.trans o1); have D1 := DC.out _ o1; obtain ⟨y0, y1⟩ := D1; clear o1)
            | (go_at_call 7; refine (right_any s z _ (by omega)).mono ?_; rw [H2.out]; rintro e w2 ⟨rfl, o2⟩; have O2 := Lib.hid (O1.out.trans o2); clear o2)
            | (go_at_call 8; refine (ascii_any _ _ (by omega)).mono ?_; rw [H3.out]; rintro e w3 ⟨rfl, rfl⟩))
          go_ret
          exact ⟨rfl, O2.out⟩
        | true =>
          have H2 := Lib.hid e2
          cases e3 : asc10 q with
          | false =>
            have H3 := Lib.hid e3
            clear e2 e3 h2
            go_wp2_with (first
              | (go_at_call 6; refine (fits_any s z _ (by omega)).mono ?_; rw [d1.out]; rintro e w1 ⟨rfl, o1⟩; have O1 := Lib.hid (O0.out.trans o1); have D1 := DC.out _ o1; obtain ⟨y0, y1⟩ := D1; clear o1)
              | (go_at_call 7; refine (right_any s z _ (by omega)).mono ?_; rw [H2.out]; rintro e w2 ⟨rfl, o2⟩; have O2 := Lib.hid (O1.out.trans o2); clear o2)
              | (go_at_call 8; refine (ascii_any _ _ (by omega)).mono ?_; rw [H3.out]; rintro e w3 ⟨rfl, rfl⟩))
            go_ret
            exact ⟨rfl, O2.out⟩
          | true =>
            have H3 := Lib.hid e3
            by_cases h4 : q.size = 0
            · obtain rfl : q = ⟨#[]⟩ := empty_ba h4
              clear e2 e3 h2 h4
              go_wp2_with (first
                | (go_at_call 6; refine (fits_any s z _ (by omega)).mono ?_; rw [d1.out]; rintro e w1 ⟨rfl, o1⟩; have O1 := Lib.hid (O0.out.trans o1); have D1 := DC.out _ o1; obtain ⟨y0, y1⟩ := D1; clear o1)
                | (go_at_call 7; refine (right_any s z _ (by omega)).mono ?_; rw [H2.out]; rintro e w2 ⟨rfl, o2⟩; have O2 := Lib.hid (O1.out.trans o2); clear o2)
                | (go_at_call 8; refine (ascii_any _ _ (by omega)).mono ?_; rw [H3.out]; rintro e w3 ⟨rfl, rfl⟩))
              go_ret
              exact ⟨rfl, O2.out⟩
            · have h5 : 10 < q.size := by
                rcases Nat.lt_or_ge 10 q.size with h | h
                · exact h
                · exact absurd ⟨e2, e3, by omega, h⟩ h2
              have d5 : decide ((q.size : Int) > 10) = true := by simp; omega
              have n1 : (q.toList == []) = false := ba_ne (by omega)
              have n2 : q.toList.isEmpty = false := ba_ne2 (by omega)
              clear e2 e3 h2 h4
              go_wp2_with (first
                | (go_at_call 6; refine (fits_any s z _ (by omega)).mono ?_; rw [d1.out]; rintro e w1 ⟨rfl, o1⟩; have O1 := Lib.hid (O0.out.trans o1); have D1 := DC.out _ o1; obtain ⟨y0, y1⟩ := D1; clear o1)
                | (go_at_call 7; refine (right_any s z _ (by omega)).mono ?_; rw [H2.out]; rintro e w2 ⟨rfl, o2⟩; have O2 := Lib.hid (O1.out.trans o2); clear o2)
                | (go_at_call 8; refine (ascii_any _ _ (by omega)).mono ?_; rw [H3.out]; rintro e w3 ⟨rfl, rfl⟩))
              go_ret
              exact ⟨rfl, O2.out⟩
    · have d3 : decide ((q.size : Int) > 2147483647) = true := by simp; omega
      go_wp2_with (go_at_call 6; refine (fits_any s z _ (by omega)).mono ?_; rw [d1.out]; rintro e w1 ⟨rfl, o1⟩; have O1 := Lib.hid (O0.out.trans o1); clear o1)
      go_ret
      exact ⟨rfl, O1.out⟩
  · have d1 : Hid (decide (s.size ≤ 2147483647) = false) := by unfold Hid; simpa using h1
    go_wp2_with (go_at_call 6; refine (fits_any s z _ (by omega)).mono ?_; rw [d1.out]; rintro e w1 ⟨rfl, o1⟩; have O1 := Lib.hid (O0.out.trans o1); clear o1)
    go_ret
    exact ⟨rfl, O1.out⟩
end Go.Proofs.YtbkdppfjmfepiaaDoor
