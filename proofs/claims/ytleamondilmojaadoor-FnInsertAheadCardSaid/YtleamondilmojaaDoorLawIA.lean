/- FnInsertAhead: a text that is inserted behind the cursor stands there, and is taken out behind it. (Printed by mklawia.py.) -/
import Derived.Test.YtleamondilmojaaDoorLawE
import Derived.Test.YtleamondilmojaaDoorAnyT
import Derived.Deep.RegionHeld3
namespace Go.Proofs.YtleamondilmojaaDoor
open Go.RowKit
set_option linter.unusedVariables false
set_option linter.unusedSimpArgs false
set_option linter.unnecessarySimpa false
set_option maxRecDepth 100000

/-- At the law's end: the three documents, what was taken out. -/
def TIA (W0 : World) (d m o tb : Nat) (l m9 : Bs) (k : Nat) (v : Bs) (w : World) : Prop := DB w d l k ∧ DB w m m9 k ∧ DB w o l k ∧ w.cell? ⟨tb, 0, none⟩ = some (.string (tx v)) ∧ Old W0 w
theorem TIA.old {W0 w w' : World} {d m o tb : Nat} {l m9 : Bs} {k : Nat} {v : Bs} (h : TIA W0 d m o tb l m9 k v w) (g : Old w w') : TIA W0 d m o tb l m9 k v w' :=
  ⟨h.1.old g, h.2.1.old g, h.2.2.1.old g, (g.cell (World.block_lt_of_cell? w _ h.2.2.2.1)).trans h.2.2.2.1, h.2.2.2.2.trans g⟩
set_option maxHeartbeats 4000000 in
theorem lawIA_any (s : ByteArray) (z : Int) (q : ByteArray) (w : World) (hs : s.size ≤ 9223372036854775807) (hz : (Lit.int .i64 z).wf = true) (hq : q.size ≤ 140737488351232) :
    Calls Tryd.prog 5 #[.agg #[.string s, .int .i64 z], .string q] w fun e w' => e = .returned (.bool true) ∧ Below w.heap.size w w' := by
  have C0 : Hid (∀ w0 w', w0 = w.alloc (.cells #[.string s, .int .i64 z] 34) → Old w0 w' → w'.cell? ⟨w.heap.size, 0, none⟩ = some (.string s) ∧ w'.cell? ⟨w.heap.size, 1, none⟩ = some (.int .i64 z)) := fun w0 w' e o => by
    subst e
    have c0 := (World.cell?_alloc_mark w #[.string s, .int .i64 z] 34 (0, 0) 0).trans rfl
    have c1 := (World.cell?_alloc_mark w #[.string s, .int .i64 z] 34 (0, 0) 1).trans rfl
    have hlt := World.block_lt_of_cell? _ _ c0
    exact ⟨(o.cell hlt).trans c0, (o.cell hlt).trans c1⟩
  have O0 := Lib.hid (Old.alloc w (.cells #[.string s, .int .i64 z] 34))
  have B0 : Hid (∀ l k, s = tx l → z = ((k : Nat) : Int) → DB (w.alloc (.cells #[.string s, .int .i64 z] 34)) w.heap.size l k) := fun l k e1 e2 => by subst e1 e2; exact DB.new w l k
  clear hz
  go_enter Tryd.func5, Tryd.ntmps5
  go_upto_region 1 with fail
  generalize hW : w.alloc (.cells #[.string s, .int .i64 z] 34) = Wd at O0 B0 ⊢
  obtain ⟨d, hd⟩ : ∃ d, d = w.heap.size := ⟨_, rfl⟩
  rw [← hd]
  rw [← hd] at B0
  have DC : Hid (∀ w', Old Wd w' → w'.cell? ⟨d, 0, none⟩ = some (.string s) ∧ w'.cell? ⟨d, 1, none⟩ = some (.int .i64 z)) := fun w' o => by
    rw [hd]; exact C0.out _ w' hW.symm o
  clear hW hd C0
  obtain ⟨x0, x1⟩ := DC.out Wd (Old.refl _)
  by_cases h1 : s.size ≤ 2147483647
  · have d1 : Hid (decide (s.size ≤ 2147483647) = true) := by unfold Hid; simpa using h1
    by_cases h3 : q.size ≤ 2147483647
    · have d3 : decide ((q.size : Int) > 2147483647) = false := by simp; omega
      by_cases h2 : drB s z = true ∧ asc10 q = true
      · obtain ⟨e2, e3⟩ := h2
        have H2 := Lib.hid e2
        have H3 := Lib.hid e3
        obtain ⟨l, rfl⟩ : ∃ l, s = tx l := ⟨bs s, (tx_bs s).symm⟩
        obtain ⟨v, rfl⟩ : ∃ v, q = tx v := ⟨bs q, (tx_bs q).symm⟩
        obtain ⟨k, rfl, hk, ok, hl⟩ := dr_ok e2
        have OV0 := okT_of e3
        rw [bs_tx] at OV0
        have OK := Lib.hid ok
        have OV := Lib.hid OV0.1
        have hvn := OV0.2
        have BD := Lib.hid (B0.out l k rfl rfl)
        clear e2 e3 ok OV0 B0 d3
        go_upto_region 5 with (first
          | (go_at_call 15; refine (fits_any (tx l) k _ (by omega)).mono ?_; rw [d1.out]; rintro e w1 ⟨rfl, o1⟩; have P1 := Lib.hid o1; have D1 := DC.out _ o1; obtain ⟨y0, y1⟩ := D1; clear o1)
          | (go_at_call 16; refine (right_any (tx l) k _ (by omega)).mono ?_; rw [H2.out]; rintro e w2 ⟨rfl, o2⟩; have P2 := Lib.hid (P1.out.trans o2); have D2 := DC.out _ P2.out; obtain ⟨t0, t1⟩ := D2; clear o2)
          | (go_at_call 10; refine (ascii_any _ _ (by omega)).mono ?_; rw [H3.out]; rintro e w3 ⟨rfl, h3⟩; obtain rfl : w2 = w3 := h3))
        have okm := insM_ok OK.out OV.out k (by omega)
        have OM := Lib.hid okm
        have hkm : k ≤ (insM l k v).length := by rw [insM_len hk]; omega
        have E1 := Lib.hid (ef_any l k (.slice (some ⟨w2.heap.size, 0, none⟩) 1 1) [⟨2, 0, tx v, false⟩] [[]] ⟨insM l k v, k, -1⟩ (w2.alloc (.cells #[.int .i64 2, .int .i64 0, .string (tx v), .bool false] 40)) hk OK.out (script_one w2 2 0 (tx v) false) (sin_one _ _ _ _) (Chain.one (does_insA l k (-1) OK.out hk 0 v OV.out)) (by simp))
        have D8 : Does ⟨8, v.length, ⟨#[]⟩, false⟩ ⟨insM l k v, k, -1⟩ ⟨l, k, -1⟩ v := by
          have h := does_del (insM l k v) k (-1) okm hkm v.length ⟨#[]⟩ false (fun _ => by rw [insM_len hk]; omega)
          rw [(delT_ins hk v).1, (delT_ins hk v).2] at h
          exact h
        have hap1 := tx_append (l.take k) v
        have hap2 : tx (l.take k ++ v) ++ tx (l.drop k) = tx (insM l k v) := tx_append _ _
        obtain ⟨m9, hm9⟩ : ∃ m9, m9 = insM l k v := ⟨_, rfl⟩
        have HM9 := Lib.hid hm9
        rw [← hm9] at E1 hkm OM D8 hap2
        have E2 := Lib.hid (fun w6 => ef_any m9 k (.slice (some ⟨w6.heap.size, 0, none⟩) 1 1) [⟨8, v.length, ⟨#[]⟩, false⟩] [v] ⟨l, k, -1⟩ (w6.alloc (.cells #[.int .i64 8, .int .i64 v.length, .string ⟨#[]⟩, .bool false] 40)) hkm OM.out (script_one w6 8 v.length ⟨#[]⟩ false) (sin_one _ _ _ _) (Chain.one D8) (by simp))
        have hcat1 : ¬ 9223372036854775807 < (tx (l.take k)).size + (tx v).size := by
          have h1 := (OK.out.take k).n
          rw [tx_size, tx_size]; omega
        have hcat2 : ¬ 9223372036854775807 < (tx (l.take k ++ v)).size + (tx (l.drop k)).size := by
          have h1 := (OK.out.take k).n
          have h2 := (OK.out.drop k).n
          rw [tx_size, tx_size, List.length_append]; omega
        have CA : Hid (tx (l.take k) ++ tx v = tx (l.take k ++ v) ∧ tx (l.take k ++ v) ++ tx (l.drop k) = tx m9 ∧ ¬ 9223372036854775807 < (tx (l.take k)).size + (tx v).size ∧ ¬ 9223372036854775807 < (tx (l.take k ++ v)).size + (tx (l.drop k)).size) := ⟨hap1, hap2, hcat1, hcat2⟩
        clear okm hm9 D8 hap1 hap2 hcat1 hcat2
        go_upto_region 6 with (go_at_call 17; refine E1.out.mono ?_; rintro e w4 ⟨tv4, rfl, o4, own4⟩; have P4 := Lib.hid (P2.out.trans ((Old.alloc _ _).trans o4)); clear o4 own4)
        have bm := Lib.hid (DB.new w4 m9 k)
        have bd := Lib.hid ((BD.out.old P4.out).old (Old.alloc w4 (.cells #[.string (tx m9), .int .i64 k] 34)))
        have P5 := Lib.hid (P4.out.trans (Old.alloc w4 (.cells #[.string (tx m9), .int .i64 k] 34)))
        obtain ⟨m, hm⟩ : ∃ m, m = w4.heap.size := ⟨_, rfl⟩
        rw [← hm] at bm ⊢
        clear hm
        generalize w4.alloc (.cells #[.string (tx m9), .int .i64 k] 34) = w5 at bm bd P5 ⊢
        have c0 := bm.out.c0
        have c1 := bm.out.c1
        have hvs : (tx v).size = v.length := tx_size v
        go_upto_region 7 with (first
          | (go_at_call 17; refine (E2.out _).mono ?_; rintro e w7 ⟨tv7, rfl, o7, own7⟩; have P7 := Lib.hid (P6.out.trans ((Old.alloc _ _).trans o7)); have O67 := Lib.hid o7; obtain ⟨tb, tc, rfl, q1, q2, q3, q4⟩ := taken_cell own7 (by simp); have CT := Lib.hid (q4 0 (by simp)); have LT := Lib.hid (And.intro q1 q2); clear o7 own7 q4 q1 q2 q3)
          | (refine wpList_runes rfl 9 42 21 _ (tx v) rfl rfl (by kernel_rfl) (by kernel_rfl) (by kernel_rfl) (by rw [tx_size]; omega) ?_; intro vv w6 o6 r6 hv6 own6; have P6 := Lib.hid (P5.out.trans o6); have O56 := Lib.hid o6; have d0 := (bm.out.old o6).c0; have d1 := (bm.out.old o6).c1; rw [runes_tx OV.out] at hv6; obtain ⟨vb6, vc6, rfl⟩ := hv6; rw [List.length_map]; clear o6 r6 own6))
        have bo := Lib.hid (DB.new w7 l k)
        have P8 := Lib.hid (P7.out.trans (Old.alloc w7 (.cells #[.string (tx l), .int .i64 k] 34)))
        have o68 : Old w6 w7 := ((Old.alloc _ _).trans O67.out)
        have bd8 := Lib.hid ((bd.out.old O56.out).old (o68.trans (Old.alloc w7 (.cells #[.string (tx l), .int .i64 k] 34))))
        have bm8 := Lib.hid ((bm.out.old O56.out).old (o68.trans (Old.alloc w7 (.cells #[.string (tx l), .int .i64 k] 34))))
        have CT8 := Lib.hid (((Old.alloc w7 (.cells #[.string (tx l), .int .i64 k] 34)).cell LT.out.1).trans CT.out)
        obtain ⟨o, ho⟩ : ∃ o, o = w7.heap.size := ⟨_, rfl⟩
        rw [← ho] at bo ⊢
        have i1 : (1 : Int) ≤ tc := by have := LT.out.2; simp at this; omega
        clear ho c0 c1 d0 d1 o68
        generalize w7.alloc (.cells #[.string (tx l), .int .i64 k] 34) = w8 at bo P8 bd8 bm8 CT8 ⊢
        have T0 : TIA w8 d m o tb l m9 k v w8.drew := TIA.old ⟨bd8.out, bm8.out, bo.out, CT8.out, Old.refl _⟩ (Old.drew _)
        obtain ⟨hap1, hap2, hcat1, hcat2⟩ := CA.out
        clear hvs
        refine wp_region_noPanic ?_
        refine wp_region_T (fun _ => TIA w8 d m o tb l m9 k v) 99 (by kernel_rfl) (T0) ?_
        refine wpT_take (i := 0) (v := ?_) rfl (by kernel_rfl) (by kernel_rfl) (by kernel_rfl) (Or.inl ⟨by rfl, ?_⟩) ?_
        rotate_left
        · (intro b hb w hT; go_simp; exact Lands.value hT)
        try simp only [Act.put, List.getElem_toArray, List.getElem_cons_succ, List.getElem_cons_zero, List.setIfInBounds_toArray, List.set_cons_zero, List.set_cons_succ]
        refine wpT_take (i := 1) (v := ?_) rfl (by kernel_rfl) (by kernel_rfl) (by kernel_rfl) (Or.inl ⟨by rfl, ?_⟩) ?_
        rotate_left
        · (intro b hb w hT; go_simp; exact Lands.value hT)
        try simp only [Act.put, List.getElem_toArray, List.getElem_cons_succ, List.getElem_cons_zero, List.setIfInBounds_toArray, List.set_cons_zero, List.set_cons_succ]
        refine wpT_take (i := 2) (v := ?_) rfl (by kernel_rfl) (by kernel_rfl) (by kernel_rfl) (Or.inl ⟨by rfl, ?_⟩) ?_
        rotate_left
        · (intro b hb w hT; go_simp; exact Lands.value hT)
        try simp only [Act.put, List.getElem_toArray, List.getElem_cons_succ, List.getElem_cons_zero, List.setIfInBounds_toArray, List.set_cons_zero, List.set_cons_succ]
        refine wpT_take (i := 3) (v := ?_) rfl (by kernel_rfl) (by kernel_rfl) (by kernel_rfl) (Or.inl ⟨by rfl, ?_⟩) ?_
        rotate_left
        · (intro b hb w hT; go_simp; exact Lands.value hT)
        try simp only [Act.put, List.getElem_toArray, List.getElem_cons_succ, List.getElem_cons_zero, List.setIfInBounds_toArray, List.set_cons_zero, List.set_cons_succ]
        refine wpT_take (i := 4) (v := ?_) rfl (by kernel_rfl) (by kernel_rfl) (by kernel_rfl) (Or.inl ⟨by rfl, ?_⟩) ?_
        rotate_left
        · (intro b hb w hT; go_simp; exact Lands.value hT)
        try simp only [Act.put, List.getElem_toArray, List.getElem_cons_succ, List.getElem_cons_zero, List.setIfInBounds_toArray, List.set_cons_zero, List.set_cons_succ]
        refine wpT_take (i := 5) (v := ?_) rfl (by kernel_rfl) (by kernel_rfl) (by kernel_rfl) (Or.inl ⟨by rfl, ?_⟩) ?_
        rotate_left
        · (intro b hb w hT; go_simp; exact Lands.value hT)
        try simp only [Act.put, List.getElem_toArray, List.getElem_cons_succ, List.getElem_cons_zero, List.setIfInBounds_toArray, List.set_cons_zero, List.set_cons_succ]
        refine wpT_take (i := 6) (v := ?_) rfl (by kernel_rfl) (by kernel_rfl) (by kernel_rfl) (Or.inl ⟨by rfl, ?_⟩) ?_
        rotate_left
        · (intro b hb w hT; have h0 := hT.2.1.c0; have h1 := hT.2.1.c1; go_simp; exact Lands.value hT)
        try simp only [Act.put, List.getElem_toArray, List.getElem_cons_succ, List.getElem_cons_zero, List.setIfInBounds_toArray, List.set_cons_zero, List.set_cons_succ]
        refine wpT_take (i := 7) (v := ?_) rfl (by kernel_rfl) (by kernel_rfl) (by kernel_rfl) (Or.inl ⟨by rfl, ?_⟩) ?_
        rotate_left
        · (intro b hb w hT; go_simp; exact Lands.value hT)
        try simp only [Act.put, List.getElem_toArray, List.getElem_cons_succ, List.getElem_cons_zero, List.setIfInBounds_toArray, List.set_cons_zero, List.set_cons_succ]
        refine wpT_take (i := 8) (v := ?_) rfl (by kernel_rfl) (by kernel_rfl) (by kernel_rfl) (Or.inl ⟨by rfl, ?_⟩) ?_
        rotate_left
        · (intro b hb w hT; have h0 := hT.1.c0; have h1 := hT.1.c1; go_simp; exact Lands.value hT)
        try simp only [Act.put, List.getElem_toArray, List.getElem_cons_succ, List.getElem_cons_zero, List.setIfInBounds_toArray, List.set_cons_zero, List.set_cons_succ]
        refine wpT_take (i := 9) (v := .bool true) rfl (by kernel_rfl) (by kernel_rfl) (by kernel_rfl) (Or.inl ⟨by rfl, ?_⟩) ?_
        · (intro b hb w hT; go_simp; exact Lands.value hT)
        try simp only [Act.put, List.getElem_toArray, List.getElem_cons_succ, List.getElem_cons_zero, List.setIfInBounds_toArray, List.set_cons_zero, List.set_cons_succ]
        refine wpT_take (i := 10) (v := ?_) rfl (by kernel_rfl) (by kernel_rfl) (by kernel_rfl) (Or.inl ⟨by rfl, ?_⟩) ?_
        rotate_left
        · (intro b hb w hT; go_simp; exact Lands.value hT)
        try simp only [Act.put, List.getElem_toArray, List.getElem_cons_succ, List.getElem_cons_zero, List.setIfInBounds_toArray, List.set_cons_zero, List.set_cons_succ]
        refine wpT_take (i := 11) (v := ?_) rfl (by kernel_rfl) (by kernel_rfl) (by kernel_rfl) (Or.inl ⟨by rfl, ?_⟩) ?_
        rotate_left
        · (intro b hb w hT; go_simp; exact Lands.value hT)
        try simp only [Act.put, List.getElem_toArray, List.getElem_cons_succ, List.getElem_cons_zero, List.setIfInBounds_toArray, List.set_cons_zero, List.set_cons_succ]
        refine wpT_take (i := 12) (v := ?_) rfl (by kernel_rfl) (by kernel_rfl) (by kernel_rfl) (Or.inl ⟨by rfl, ?_⟩) ?_
        rotate_left
        · (intro b hb w hT; go_simp; exact Lands.value hT)
        try simp only [Act.put, List.getElem_toArray, List.getElem_cons_succ, List.getElem_cons_zero, List.setIfInBounds_toArray, List.set_cons_zero, List.set_cons_succ]
        refine wpT_take (i := 13) (v := ?_) rfl (by kernel_rfl) (by kernel_rfl) (by kernel_rfl) (Or.inl ⟨by rfl, ?_⟩) ?_
        rotate_left
        · (intro b hb w hT; have h0 := hT.2.1.c0; have h1 := hT.2.1.c1; go_simp; exact Lands.value hT)
        try simp only [Act.put, List.getElem_toArray, List.getElem_cons_succ, List.getElem_cons_zero, List.setIfInBounds_toArray, List.set_cons_zero, List.set_cons_succ]
        refine wpT_take (i := 14) (v := ?_) rfl (by kernel_rfl) (by kernel_rfl) (by kernel_rfl) (Or.inl ⟨by rfl, ?_⟩) ?_
        rotate_left
        · (intro b hb w hT; have h0 := hT.1.c0; have h1 := hT.1.c1; go_simp; exact Lands.value hT)
        try simp only [Act.put, List.getElem_toArray, List.getElem_cons_succ, List.getElem_cons_zero, List.setIfInBounds_toArray, List.set_cons_zero, List.set_cons_succ]
        refine wpT_take (i := 15) (v := .string (tx (l.take k))) rfl (by kernel_rfl) (by kernel_rfl) (by kernel_rfl) (Or.inl ⟨by rfl, ?_⟩) ?_
        · (intro b hb w hT; go_simp; exact Lands.call (before_any l k _ hk OK.out) fun w' o => TIA.old hT o)
        try simp only [Act.put, List.getElem_toArray, List.getElem_cons_succ, List.getElem_cons_zero, List.setIfInBounds_toArray, List.set_cons_zero, List.set_cons_succ]
        refine wpT_take (i := 16) (v := ?_) rfl (by kernel_rfl) (by kernel_rfl) (by kernel_rfl) (Or.inl ⟨by rfl, ?_⟩) ?_
        rotate_left
        · (intro b hb w hT; go_simp; exact Lands.value hT)
        try simp only [Act.put, List.getElem_toArray, List.getElem_cons_succ, List.getElem_cons_zero, List.setIfInBounds_toArray, List.set_cons_zero, List.set_cons_succ]
        refine wpT_take (i := 17) (v := .string (tx (l.take k ++ v))) rfl (by kernel_rfl) (by kernel_rfl) (by kernel_rfl) (Or.inl ⟨by rfl, ?_⟩) ?_
        · (intro b hb w hT; go_simp; exact Lands.value hT)
        try simp only [Act.put, List.getElem_toArray, List.getElem_cons_succ, List.getElem_cons_zero, List.setIfInBounds_toArray, List.set_cons_zero, List.set_cons_succ]
        refine wpT_take (i := 18) (v := ?_) rfl (by kernel_rfl) (by kernel_rfl) (by kernel_rfl) (Or.inl ⟨by rfl, ?_⟩) ?_
        rotate_left
        · (intro b hb w hT; have h0 := hT.1.c0; have h1 := hT.1.c1; go_simp; exact Lands.value hT)
        try simp only [Act.put, List.getElem_toArray, List.getElem_cons_succ, List.getElem_cons_zero, List.setIfInBounds_toArray, List.set_cons_zero, List.set_cons_succ]
        refine wpT_take (i := 19) (v := .string (tx (l.drop k))) rfl (by kernel_rfl) (by kernel_rfl) (by kernel_rfl) (Or.inl ⟨by rfl, ?_⟩) ?_
        · (intro b hb w hT; go_simp; exact Lands.call (after_any l k _ hk OK.out) fun w' o => TIA.old hT o)
        try simp only [Act.put, List.getElem_toArray, List.getElem_cons_succ, List.getElem_cons_zero, List.setIfInBounds_toArray, List.set_cons_zero, List.set_cons_succ]
        refine wpT_take (i := 20) (v := .string (tx m9)) rfl (by kernel_rfl) (by kernel_rfl) (by kernel_rfl) (Or.inl ⟨by rfl, ?_⟩) ?_
        · (intro b hb w hT; go_simp; exact Lands.value hT)
        try simp only [Act.put, List.getElem_toArray, List.getElem_cons_succ, List.getElem_cons_zero, List.setIfInBounds_toArray, List.set_cons_zero, List.set_cons_succ]
        refine wpT_take (i := 21) (v := .bool true) rfl (by kernel_rfl) (by kernel_rfl) (by kernel_rfl) (Or.inl ⟨by rfl, ?_⟩) ?_
        · (intro b hb w hT; go_simp; exact Lands.value hT)
        try simp only [Act.put, List.getElem_toArray, List.getElem_cons_succ, List.getElem_cons_zero, List.setIfInBounds_toArray, List.set_cons_zero, List.set_cons_succ]
        refine wpT_take (i := 22) (v := ?_) rfl (by kernel_rfl) (by kernel_rfl) (by kernel_rfl) (Or.inl ⟨by rfl, ?_⟩) ?_
        rotate_left
        · (intro b hb w hT; go_simp; exact Lands.value hT)
        try simp only [Act.put, List.getElem_toArray, List.getElem_cons_succ, List.getElem_cons_zero, List.setIfInBounds_toArray, List.set_cons_zero, List.set_cons_succ]
        refine wpT_take (i := 23) (v := ?_) rfl (by kernel_rfl) (by kernel_rfl) (by kernel_rfl) (Or.inl ⟨by rfl, ?_⟩) ?_
        rotate_left
        · (intro b hb w hT; go_simp; exact Lands.value hT)
        try simp only [Act.put, List.getElem_toArray, List.getElem_cons_succ, List.getElem_cons_zero, List.setIfInBounds_toArray, List.set_cons_zero, List.set_cons_succ]
        refine wpT_take (i := 24) (v := ?_) rfl (by kernel_rfl) (by kernel_rfl) (by kernel_rfl) (Or.inl ⟨by rfl, ?_⟩) ?_
        rotate_left
        · (intro b hb w hT; have h0 := hT.2.2.1.c0; have h1 := hT.2.2.1.c1; go_simp; exact Lands.value hT)
        try simp only [Act.put, List.getElem_toArray, List.getElem_cons_succ, List.getElem_cons_zero, List.setIfInBounds_toArray, List.set_cons_zero, List.set_cons_succ]
        refine wpT_take (i := 25) (v := ?_) rfl (by kernel_rfl) (by kernel_rfl) (by kernel_rfl) (Or.inl ⟨by rfl, ?_⟩) ?_
        rotate_left
        · (intro b hb w hT; have h0 := hT.1.c0; have h1 := hT.1.c1; go_simp; exact Lands.value hT)
        try simp only [Act.put, List.getElem_toArray, List.getElem_cons_succ, List.getElem_cons_zero, List.setIfInBounds_toArray, List.set_cons_zero, List.set_cons_succ]
        refine wpT_take (i := 26) (v := .bool true) rfl (by kernel_rfl) (by kernel_rfl) (by kernel_rfl) (Or.inl ⟨by rfl, ?_⟩) ?_
        · (intro b hb w hT; go_simp; exact Lands.value hT)
        try simp only [Act.put, List.getElem_toArray, List.getElem_cons_succ, List.getElem_cons_zero, List.setIfInBounds_toArray, List.set_cons_zero, List.set_cons_succ]
        refine wpT_take (i := 27) (v := ?_) rfl (by kernel_rfl) (by kernel_rfl) (by kernel_rfl) (Or.inl ⟨by rfl, ?_⟩) ?_
        rotate_left
        · (intro b hb w hT; go_simp; exact Lands.value hT)
        try simp only [Act.put, List.getElem_toArray, List.getElem_cons_succ, List.getElem_cons_zero, List.setIfInBounds_toArray, List.set_cons_zero, List.set_cons_succ]
        refine wpT_take (i := 28) (v := ?_) rfl (by kernel_rfl) (by kernel_rfl) (by kernel_rfl) (Or.inl ⟨by rfl, ?_⟩) ?_
        rotate_left
        · (intro b hb w hT; go_simp; exact Lands.value hT)
        try simp only [Act.put, List.getElem_toArray, List.getElem_cons_succ, List.getElem_cons_zero, List.setIfInBounds_toArray, List.set_cons_zero, List.set_cons_succ]
        refine wpT_take (i := 29) (v := ?_) rfl (by kernel_rfl) (by kernel_rfl) (by kernel_rfl) (Or.inl ⟨by rfl, ?_⟩) ?_
        rotate_left
        · (intro b hb w hT; go_simp; exact Lands.value hT)
        try simp only [Act.put, List.getElem_toArray, List.getElem_cons_succ, List.getElem_cons_zero, List.setIfInBounds_toArray, List.set_cons_zero, List.set_cons_succ]
        refine wpT_take (i := 30) (v := ?_) rfl (by kernel_rfl) (by kernel_rfl) (by kernel_rfl) (Or.inl ⟨by rfl, ?_⟩) ?_
        rotate_left
        · (intro b hb w hT; go_simp; exact Lands.value hT)
        try simp only [Act.put, List.getElem_toArray, List.getElem_cons_succ, List.getElem_cons_zero, List.setIfInBounds_toArray, List.set_cons_zero, List.set_cons_succ]
        refine wpT_take (i := 31) (v := .bool true) rfl (by kernel_rfl) (by kernel_rfl) (by kernel_rfl) (Or.inl ⟨by rfl, ?_⟩) ?_
        · (intro b hb w hT; go_simp; exact Lands.value hT)
        try simp only [Act.put, List.getElem_toArray, List.getElem_cons_succ, List.getElem_cons_zero, List.setIfInBounds_toArray, List.set_cons_zero, List.set_cons_succ]
        refine wpT_take (i := 32) (v := ?_) rfl (by kernel_rfl) (by kernel_rfl) (by kernel_rfl) (Or.inl ⟨by rfl, ?_⟩) ?_
        rotate_left
        · (intro b hb w hT; go_simp; exact Lands.value hT)
        try simp only [Act.put, List.getElem_toArray, List.getElem_cons_succ, List.getElem_cons_zero, List.setIfInBounds_toArray, List.set_cons_zero, List.set_cons_succ]
        refine wpT_take (i := 33) (v := ?_) rfl (by kernel_rfl) (by kernel_rfl) (by kernel_rfl) (Or.inl ⟨by rfl, ?_⟩) ?_
        rotate_left
        · (intro b hb w hT; go_simp; exact Lands.value hT)
        try simp only [Act.put, List.getElem_toArray, List.getElem_cons_succ, List.getElem_cons_zero, List.setIfInBounds_toArray, List.set_cons_zero, List.set_cons_succ]
        refine wpT_take (i := 34) (v := ?_) rfl (by kernel_rfl) (by kernel_rfl) (by kernel_rfl) (Or.inl ⟨by rfl, ?_⟩) ?_
        rotate_left
        · (intro b hb w hT; go_simp; exact Lands.value hT)
        try simp only [Act.put, List.getElem_toArray, List.getElem_cons_succ, List.getElem_cons_zero, List.setIfInBounds_toArray, List.set_cons_zero, List.set_cons_succ]
        refine wpT_take (i := 35) (v := ?_) rfl (by kernel_rfl) (by kernel_rfl) (by kernel_rfl) (Or.inl ⟨by rfl, ?_⟩) ?_
        rotate_left
        · (intro b hb w hT; go_simp; exact Lands.value hT)
        try simp only [Act.put, List.getElem_toArray, List.getElem_cons_succ, List.getElem_cons_zero, List.setIfInBounds_toArray, List.set_cons_zero, List.set_cons_succ]
        refine wpT_take (i := 36) (v := ?_) rfl (by kernel_rfl) (by kernel_rfl) (by kernel_rfl) (Or.inl ⟨by rfl, ?_⟩) ?_
        rotate_left
        · (intro b hb w hT; have h0 := hT.2.2.2.1; go_simp; exact Lands.value hT)
        try simp only [Act.put, List.getElem_toArray, List.getElem_cons_succ, List.getElem_cons_zero, List.setIfInBounds_toArray, List.set_cons_zero, List.set_cons_succ]
        refine wpT_take (i := 37) (v := ?_) rfl (by kernel_rfl) (by kernel_rfl) (by kernel_rfl) (Or.inl ⟨by rfl, ?_⟩) ?_
        rotate_left
        · (intro b hb w hT; go_simp; exact Lands.value hT)
        try simp only [Act.put, List.getElem_toArray, List.getElem_cons_succ, List.getElem_cons_zero, List.setIfInBounds_toArray, List.set_cons_zero, List.set_cons_succ]
        refine wpT_take (i := 38) (v := .bool true) rfl (by kernel_rfl) (by kernel_rfl) (by kernel_rfl) (Or.inl ⟨by rfl, ?_⟩) ?_
        · (intro b hb w hT; go_simp; exact Lands.value hT)
        try simp only [Act.put, List.getElem_toArray, List.getElem_cons_succ, List.getElem_cons_zero, List.setIfInBounds_toArray, List.set_cons_zero, List.set_cons_succ]
        refine wpT_take (i := 39) (v := ?_) rfl (by kernel_rfl) (by kernel_rfl) (by kernel_rfl) (Or.inl ⟨by rfl, ?_⟩) ?_
        rotate_left
        · (intro b hb w hT; go_simp; exact Lands.value hT)
        try simp only [Act.put, List.getElem_toArray, List.getElem_cons_succ, List.getElem_cons_zero, List.setIfInBounds_toArray, List.set_cons_zero, List.set_cons_succ]
        refine wpT_take (i := 40) (v := ?_) rfl (by kernel_rfl) (by kernel_rfl) (by kernel_rfl) (Or.inl ⟨by rfl, ?_⟩) ?_
        rotate_left
        · (intro b hb w hT; go_simp; exact Lands.value hT)
        try simp only [Act.put, List.getElem_toArray, List.getElem_cons_succ, List.getElem_cons_zero, List.setIfInBounds_toArray, List.set_cons_zero, List.set_cons_succ]
        refine wpT_done (by kernel_rfl) ?_ _
        intro wt hT
        refine NoPanic.normal ?_
        have OZ := Lib.hid (O0.out.trans (P8.out.trans hT.2.2.2.2))
        clear hT T0
        go_wp2_with fail
        go_ret
        exact ⟨rfl, OZ.out⟩
      · cases e2 : drB s z with
        | false =>
          have H2 := Lib.hid e2
          clear e2 h2
          go_wp2_with (first
            | (go_at_call 15; refine (fits_any s z _ (by omega)).mono ?_; rw [d1.out]; rintro e w1 ⟨rfl, o1⟩; have O1 := Lib.hid (O0.out.trans o1); have D1 := DC.out _ o1; obtain ⟨y0, y1⟩ := D1; clear o1)
            | (go_at_call 16; refine (right_any s z _ (by omega)).mono ?_; rw [H2.out]; rintro e w2 ⟨rfl, o2⟩; have O2 := Lib.hid (O1.out.trans o2); clear o2))
          go_ret
          exact ⟨rfl, O2.out⟩
        | true =>
          cases e3 : asc10 q with
          | true => exact absurd ⟨e2, e3⟩ h2
          | false =>
            have H2 := Lib.hid e2
            have H3 := Lib.hid e3
            clear e2 e3 h2
            go_wp2_with (first
              | (go_at_call 15; refine (fits_any s z _ (by omega)).mono ?_; rw [d1.out]; rintro e w1 ⟨rfl, o1⟩; have O1 := Lib.hid (O0.out.trans o1); have D1 := DC.out _ o1; obtain ⟨y0, y1⟩ := D1; clear o1)
              | (go_at_call 16; refine (right_any s z _ (by omega)).mono ?_; rw [H2.out]; rintro e w2 ⟨rfl, o2⟩; have O2 := Lib.hid (O1.out.trans o2); clear o2)
              | (go_at_call 10; refine (ascii_any _ _ (by omega)).mono ?_; rw [H3.out]; rintro e w3 ⟨rfl, rfl⟩))
            go_ret
            exact ⟨rfl, O2.out⟩
    · have d3 : decide ((q.size : Int) > 2147483647) = true := by simp; omega
      go_wp2_with (go_at_call 15; refine (fits_any s z _ (by omega)).mono ?_; rw [d1.out]; rintro e w1 ⟨rfl, o1⟩; have O1 := Lib.hid (O0.out.trans o1); clear o1)
      go_ret
      exact ⟨rfl, O1.out⟩
  · have d1 : Hid (decide (s.size ≤ 2147483647) = false) := by unfold Hid; simpa using h1
    go_wp2_with (go_at_call 15; refine (fits_any s z _ (by omega)).mono ?_; rw [d1.out]; rintro e w1 ⟨rfl, o1⟩; have O1 := Lib.hid (O0.out.trans o1); clear o1)
    go_ret
    exact ⟨rfl, O1.out⟩
end Go.Proofs.YtleamondilmojaaDoor
