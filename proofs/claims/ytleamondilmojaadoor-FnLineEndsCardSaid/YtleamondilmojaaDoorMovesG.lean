/- A document's cursor to the left, to the right, up, down. (Printed by mkmovesg.py.) -/
import Derived.Test.YtleamondilmojaaDoorMovesM
import Derived.Test.YtleamondilmojaaDoorAnyT
import Derived.Deep.Cut
import Derived.Deep.RegionHeld3
namespace Go.Proofs.YtleamondilmojaaDoor
open Go.RowKit
set_option linter.unusedVariables false
set_option linter.unusedSimpArgs false
set_option linter.unnecessarySimpa false
set_option maxRecDepth 100000

def TG (W : World) (p : Nat) (l : Bs) (k : Nat) (w : World) : Prop := DP w p l k ∧ Old W w
theorem TG.old {W w w' : World} {p : Nat} {l : Bs} {k : Nat} (h : TG W p l k w) (o : Old w w') : TG W p l k w' := ⟨h.1.old o, h.2.trans o⟩
theorem lineA_le (l : Bs) (k : Nat) : (lineA l k).length ≤ l.length := by
  have := flen_le nl (l.drop k)
  unfold lineA; simp; omega
section
variable (p : Nat) (l : Bs) (k : Nat) (w : World) (h : DP w p l k) (hk : k ≤ l.length) (ok : okT l)
include h hk ok
theorem left_any (n : Nat) (hn : n ≤ 1000000) : Calls Tryd.prog 107 #[.pointer (some ⟨p, 0, none⟩), .int .i64 n] w fun e w' => e = .returned (.int .i64 (-((min n (lineB l k).length : Nat) : Int))) ∧ Old w w' := by
  have H := Lib.hid h
  have OK := Lib.hid ok
  have hm := ok.n
  have hb := lineB_len hk
  obtain ⟨c, hc⟩ : ∃ c, c = (lineB l k).length := ⟨_, rfl⟩
  have CO := fun w' (o : Old w w') => col_any p l k w' (H.out.old o) hk OK.out
  rw [← hc] at hb CO ⊢
  have CC := Lib.hid CO
  clear h ok hc CO
  go_enter Tryd.func107, Tryd.ntmps107
  by_cases hcn : n < c
  · have e1 : Hid (min n c = n) := by unfold Hid; omega
    go_wp2_with (go_at_call 42; (with_reducible refine (CC.out _ (Old.refl _)).mono ?_); rintro e w1 ⟨rfl, o1⟩; have O1 := Lib.hid o1; clear o1)
    go_ret
    exact ⟨ret_int (by rw [e1.out]), O1.out⟩
  · have e1 : Hid (min n c = c) := by unfold Hid; omega
    go_wp2_with (first
      | (go_at_call 42; (with_reducible refine (CC.out w (Old.refl _)).mono ?_); rintro e w1 ⟨rfl, o1⟩; have O1 := Lib.hid o1; clear o1)
      | (go_at_call 42; (with_reducible refine (CC.out _ O1.out).mono ?_); rintro e w2 ⟨rfl, o2⟩; have O2 := Lib.hid (O1.out.trans o2); clear o2))
    go_ret
    exact ⟨ret_int (by rw [e1.out]), O2.out⟩
theorem right_any9 (n : Nat) (hn : n ≤ 1000000) : Calls Tryd.prog 108 #[.pointer (some ⟨p, 0, none⟩), .int .i64 n] w fun e w' => e = .returned (.int .i64 (min n (lineA l k).length : Nat)) ∧ Old w w' := by
  have H := Lib.hid h
  have OK := Lib.hid ok
  have hm := ok.n
  have hb := lineA_le l k
  have CO := fun w' (o : Old w w') => cla_any p l k w' (H.out.old o) hk OK.out
  obtain ⟨m, hc⟩ : ∃ m, m = lineA l k := ⟨_, rfl⟩
  rw [← hc] at hb CO ⊢
  have CC := Lib.hid CO
  have hs : (tx m).size = m.length := tx_size m
  clear h ok hc CO
  go_enter Tryd.func108, Tryd.ntmps108
  by_cases hcn : n < m.length
  · have e1 : Hid (min n m.length = n) := by unfold Hid; omega
    go_wp2_with (go_at_call 39; (with_reducible refine (CC.out _ (Old.refl _)).mono ?_); rintro e w1 ⟨rfl, o1⟩; have O1 := Lib.hid o1; clear o1)
    go_ret
    exact ⟨ret_int (by rw [e1.out]), O1.out⟩
  · have e1 : Hid (min n m.length = m.length) := by unfold Hid; omega
    go_wp2_with (first
      | (go_at_call 39; (with_reducible refine (CC.out w (Old.refl _)).mono ?_); rintro e w1 ⟨rfl, o1⟩; have O1 := Lib.hid o1; clear o1)
      | (go_at_call 39; (with_reducible refine (CC.out _ O1.out).mono ?_); rintro e w2 ⟨rfl, o2⟩; have O2 := Lib.hid (O1.out.trans o2); clear o2))
    go_ret
    exact ⟨ret_int (by rw [e1.out]), O2.out⟩
set_option maxHeartbeats 1000000 in
theorem up_any (n c : Nat) (hn : n ≤ 1000000) (hc : c ≤ 1000000) : Calls Tryd.prog 109 #[.pointer (some ⟨p, 0, none⟩), .int .i64 n, .int .i64 c] w fun e w' => e = .returned (.int .i64 ((idxP l (row l k - n) c : Int) - (k : Int))) ∧ Old w w' := by
  have H := Lib.hid h
  have OK := Lib.hid ok
  have hm := ok.n
  have hr := (row_spec l k hk).1
  have hsz := splitL_size l
  have hR : Hid (row l k - n < (splitL l).length) := by unfold Hid; omega
  have hle := idxP_le c hR.out
  have RW := Lib.hid (row_any p l k w h hk ok)
  obtain ⟨r, hr_⟩ : ∃ r, r = row l k := ⟨_, rfl⟩
  have W0 : Hid (IntKind.i64.wrap ((idxP l (r - n) c : Int) - (k : Int)) = (idxP l (r - n) c : Int) - (k : Int)) := by unfold Hid; rw [hr_]; exact IntWalk.i64_in _ (by omega)
  rw [← hr_] at hR RW hr hle ⊢
  have e1 : ((c : Int) == -1) = false := by rw [beq_eq_false_iff_ne]; omega
  have T00 : ∀ w0, Old w w0 → TG w p l k w0 := fun w0 o => ⟨H.out.old o, o⟩
  have TT := Lib.hid T00
  clear h ok hr_ T00
  go_enter Tryd.func109, Tryd.ntmps109
  by_cases hnr : r < n
  · have e2 : r - n = 0 := by omega
    rw [e2] at hR hle W0 ⊢
    clear e2
    have OKK := OK.out
    go_upto_region 8 with (go_at_call 41; refine RW.out.mono ?_; rintro e w1 ⟨rfl, o1⟩; have O1 := Lib.hid o1; clear o1)
    have T0 := TT.out _ (O1.out.trans (Old.drew w1))
    refine wp_region_noPanic ?_
    refine wp_region_T (fun _ => TG w p l k) 0 (by kernel_rfl) T0 ?_
    refine wpT_take (i := 0) (v := ?_) rfl (by kernel_rfl) (by kernel_rfl) (by kernel_rfl) (Or.inl ⟨by rfl, ?_⟩) ?_
    rotate_left
    · (intro b hb w hT; go_simp; exact Lands.value hT)
    try simp only [Act.put, List.getElem_toArray, List.getElem_cons_succ, List.getElem_cons_zero, List.setIfInBounds_toArray, List.set_cons_zero, List.set_cons_succ]
    refine wpT_take (i := 1) (v := ?_) rfl (by kernel_rfl) (by kernel_rfl) (by kernel_rfl) (Or.inl ⟨by rfl, ?_⟩) ?_
    rotate_left
    · (intro b hb w hT; go_simp; exact Lands.value hT)
    try simp only [Act.put, List.getElem_toArray, List.getElem_cons_succ, List.getElem_cons_zero, List.setIfInBounds_toArray, List.set_cons_zero, List.set_cons_succ]
    refine wpT_take (i := 2) (v := ?_) rfl (by kernel_rfl) (by kernel_rfl) (by kernel_rfl) (Or.inl ⟨by rfl, ?_⟩) ?_
    rotate_left
    · (intro b hb w hT; go_simp; exact Lands.value hT)
    try simp only [Act.put, List.getElem_toArray, List.getElem_cons_succ, List.getElem_cons_zero, List.setIfInBounds_toArray, List.set_cons_zero, List.set_cons_succ]
    refine wpT_take (i := 3) (v := .int .i64 (idxP l 0 c)) rfl (by kernel_rfl) (by kernel_rfl) (by kernel_rfl) (Or.inl ⟨by rfl, ?_⟩) ?_
    · (intro b hb w hT; go_simp; exact Lands.call (tri_any p l k _ hT.1 hk OK.out 0 c hR.out hc) fun w' o => TG.old hT o)
    try simp only [Act.put, List.getElem_toArray, List.getElem_cons_succ, List.getElem_cons_zero, List.setIfInBounds_toArray, List.set_cons_zero, List.set_cons_succ]
    refine wpT_take (i := 4) (v := ?_) rfl (by kernel_rfl) (by kernel_rfl) (by kernel_rfl) (Or.inl ⟨by rfl, ?_⟩) ?_
    rotate_left
    · (intro b hb w hT; go_simp; exact Lands.value hT)
    try simp only [Act.put, List.getElem_toArray, List.getElem_cons_succ, List.getElem_cons_zero, List.setIfInBounds_toArray, List.set_cons_zero, List.set_cons_succ]
    refine wpT_take (i := 5) (v := ?_) rfl (by kernel_rfl) (by kernel_rfl) (by kernel_rfl) (Or.inl ⟨by rfl, ?_⟩) ?_
    rotate_left
    · (intro b hb w hT; have h0 := hT.1.c0; have h1 := hT.1.c1; go_simp; exact Lands.value hT)
    try simp only [Act.put, List.getElem_toArray, List.getElem_cons_succ, List.getElem_cons_zero, List.setIfInBounds_toArray, List.set_cons_zero, List.set_cons_succ]
    refine wpT_take (i := 6) (v := ?_) rfl (by kernel_rfl) (by kernel_rfl) (by kernel_rfl) (Or.inl ⟨by rfl, ?_⟩) ?_
    rotate_left
    · (intro b hb w hT; go_simp; exact Lands.value hT)
    try simp only [Act.put, List.getElem_toArray, List.getElem_cons_succ, List.getElem_cons_zero, List.setIfInBounds_toArray, List.set_cons_zero, List.set_cons_succ]
    refine wpT_take (i := 7) (v := ?_) rfl (by kernel_rfl) (by kernel_rfl) (by kernel_rfl) (Or.inl ⟨by rfl, ?_⟩) ?_
    rotate_left
    · (intro b hb w hT; have h0 := hT.1.c0; have h1 := hT.1.c1; go_simp; exact Lands.value hT)
    try simp only [Act.put, List.getElem_toArray, List.getElem_cons_succ, List.getElem_cons_zero, List.setIfInBounds_toArray, List.set_cons_zero, List.set_cons_succ]
    refine wpT_take (i := 8) (v := .int .i64 (IntKind.i64.wrap ((idxP l 0 c : Int) - (k : Int)))) rfl (by kernel_rfl) (by kernel_rfl) (by kernel_rfl) (Or.inl ⟨by rfl, ?_⟩) ?_
    · (intro b hb w hT; go_simp; exact Lands.value hT)
    try simp only [Act.put, List.getElem_toArray, List.getElem_cons_succ, List.getElem_cons_zero, List.setIfInBounds_toArray, List.set_cons_zero, List.set_cons_succ]
    refine wpT_take (i := 9) (v := ?_) rfl (by kernel_rfl) (by kernel_rfl) (by kernel_rfl) (Or.inl ⟨by rfl, ?_⟩) ?_
    rotate_left
    · (intro b hb w hT; go_simp; exact Lands.value hT)
    try simp only [Act.put, List.getElem_toArray, List.getElem_cons_succ, List.getElem_cons_zero, List.setIfInBounds_toArray, List.set_cons_zero, List.set_cons_succ]
    refine wpT_done (by kernel_rfl) ?_ _
    intro wt hT
    refine NoPanic.normal ?_
    go_wp2_with fail
    go_ret
    exact ⟨ret_int W0.out.symm, hT.2⟩
  · obtain ⟨q, hq⟩ : ∃ q, q = r - n := ⟨_, rfl⟩
    have f1 : IntKind.i64.wrap ((r : Int) - n) = (q : Int) := by rw [IntWalk.i64_in _ (by omega)]; omega
    rw [← hq] at hR hle W0 ⊢
    have HQ := Lib.hid hq
    clear hq
    go_upto_region 8 with (go_at_call 41; refine RW.out.mono ?_; rintro e w1 ⟨rfl, o1⟩; have O1 := Lib.hid o1; clear o1)
    have T0 := TT.out _ (O1.out.trans (Old.drew w1))
    refine wp_region_noPanic ?_
    refine wp_region_T (fun _ => TG w p l k) 0 (by kernel_rfl) T0 ?_
    refine wpT_take (i := 0) (v := ?_) rfl (by kernel_rfl) (by kernel_rfl) (by kernel_rfl) (Or.inl ⟨by rfl, ?_⟩) ?_
    rotate_left
    · (intro b hb w hT; go_simp; exact Lands.value hT)
    try simp only [Act.put, List.getElem_toArray, List.getElem_cons_succ, List.getElem_cons_zero, List.setIfInBounds_toArray, List.set_cons_zero, List.set_cons_succ]
    refine wpT_take (i := 1) (v := ?_) rfl (by kernel_rfl) (by kernel_rfl) (by kernel_rfl) (Or.inl ⟨by rfl, ?_⟩) ?_
    rotate_left
    · (intro b hb w hT; go_simp; exact Lands.value hT)
    try simp only [Act.put, List.getElem_toArray, List.getElem_cons_succ, List.getElem_cons_zero, List.setIfInBounds_toArray, List.set_cons_zero, List.set_cons_succ]
    refine wpT_take (i := 2) (v := ?_) rfl (by kernel_rfl) (by kernel_rfl) (by kernel_rfl) (Or.inl ⟨by rfl, ?_⟩) ?_
    rotate_left
    · (intro b hb w hT; go_simp; exact Lands.value hT)
    try simp only [Act.put, List.getElem_toArray, List.getElem_cons_succ, List.getElem_cons_zero, List.setIfInBounds_toArray, List.set_cons_zero, List.set_cons_succ]
    refine wpT_take (i := 3) (v := .int .i64 (idxP l q c)) rfl (by kernel_rfl) (by kernel_rfl) (by kernel_rfl) (Or.inl ⟨by rfl, ?_⟩) ?_
    · (intro b hb w hT; go_simp; exact Lands.call (tri_any p l k _ hT.1 hk OK.out q c hR.out hc) fun w' o => TG.old hT o)
    try simp only [Act.put, List.getElem_toArray, List.getElem_cons_succ, List.getElem_cons_zero, List.setIfInBounds_toArray, List.set_cons_zero, List.set_cons_succ]
    refine wpT_take (i := 4) (v := ?_) rfl (by kernel_rfl) (by kernel_rfl) (by kernel_rfl) (Or.inl ⟨by rfl, ?_⟩) ?_
    rotate_left
    · (intro b hb w hT; go_simp; exact Lands.value hT)
    try simp only [Act.put, List.getElem_toArray, List.getElem_cons_succ, List.getElem_cons_zero, List.setIfInBounds_toArray, List.set_cons_zero, List.set_cons_succ]
    refine wpT_take (i := 5) (v := ?_) rfl (by kernel_rfl) (by kernel_rfl) (by kernel_rfl) (Or.inl ⟨by rfl, ?_⟩) ?_
    rotate_left
    · (intro b hb w hT; have h0 := hT.1.c0; have h1 := hT.1.c1; go_simp; exact Lands.value hT)
    try simp only [Act.put, List.getElem_toArray, List.getElem_cons_succ, List.getElem_cons_zero, List.setIfInBounds_toArray, List.set_cons_zero, List.set_cons_succ]
    refine wpT_take (i := 6) (v := ?_) rfl (by kernel_rfl) (by kernel_rfl) (by kernel_rfl) (Or.inl ⟨by rfl, ?_⟩) ?_
    rotate_left
    · (intro b hb w hT; go_simp; exact Lands.value hT)
    try simp only [Act.put, List.getElem_toArray, List.getElem_cons_succ, List.getElem_cons_zero, List.setIfInBounds_toArray, List.set_cons_zero, List.set_cons_succ]
    refine wpT_take (i := 7) (v := ?_) rfl (by kernel_rfl) (by kernel_rfl) (by kernel_rfl) (Or.inl ⟨by rfl, ?_⟩) ?_
    rotate_left
    · (intro b hb w hT; have h0 := hT.1.c0; have h1 := hT.1.c1; go_simp; exact Lands.value hT)
    try simp only [Act.put, List.getElem_toArray, List.getElem_cons_succ, List.getElem_cons_zero, List.setIfInBounds_toArray, List.set_cons_zero, List.set_cons_succ]
    refine wpT_take (i := 8) (v := .int .i64 (IntKind.i64.wrap ((idxP l q c : Int) - (k : Int)))) rfl (by kernel_rfl) (by kernel_rfl) (by kernel_rfl) (Or.inl ⟨by rfl, ?_⟩) ?_
    · (intro b hb w hT; go_simp; exact Lands.value hT)
    try simp only [Act.put, List.getElem_toArray, List.getElem_cons_succ, List.getElem_cons_zero, List.setIfInBounds_toArray, List.set_cons_zero, List.set_cons_succ]
    refine wpT_take (i := 9) (v := ?_) rfl (by kernel_rfl) (by kernel_rfl) (by kernel_rfl) (Or.inl ⟨by rfl, ?_⟩) ?_
    rotate_left
    · (intro b hb w hT; go_simp; exact Lands.value hT)
    try simp only [Act.put, List.getElem_toArray, List.getElem_cons_succ, List.getElem_cons_zero, List.setIfInBounds_toArray, List.set_cons_zero, List.set_cons_succ]
    refine wpT_done (by kernel_rfl) ?_ _
    intro wt hT
    refine NoPanic.normal ?_
    go_wp2_with fail
    go_ret
    exact ⟨ret_int W0.out.symm, hT.2⟩
set_option maxHeartbeats 1000000 in
theorem down_any (n c : Nat) (hn : n ≤ 1000000) (hc : c ≤ 1000000) (hb : row l k + n < (splitL l).length) : Calls Tryd.prog 110 #[.pointer (some ⟨p, 0, none⟩), .int .i64 n, .int .i64 c] w fun e w' => e = .returned (.int .i64 ((idxP l (row l k + n) c : Int) - (k : Int))) ∧ Old w w' := by
  have H := Lib.hid h
  have OK := Lib.hid ok
  have hm := ok.n
  have hr := (row_spec l k hk).1
  have hsz := splitL_size l
  have hR : Hid (row l k + n < (splitL l).length) := hb
  have hle := idxP_le c hR.out
  have RW := Lib.hid (row_any p l k w h hk ok)
  obtain ⟨r, hr_⟩ : ∃ r, r = row l k := ⟨_, rfl⟩
  have W0 : Hid (IntKind.i64.wrap ((idxP l (r + n) c : Int) - (k : Int)) = (idxP l (r + n) c : Int) - (k : Int)) := by unfold Hid; rw [hr_]; exact IntWalk.i64_in _ (by omega)
  rw [← hr_] at hR RW hr hle ⊢
  have e1 : ((c : Int) == -1) = false := by rw [beq_eq_false_iff_ne]; omega
  have T00 : ∀ w0, Old w w0 → TG w p l k w0 := fun w0 o => ⟨H.out.old o, o⟩
  have TT := Lib.hid T00
  clear h ok hr_ T00 hb
  go_enter Tryd.func110, Tryd.ntmps110
  obtain ⟨q, hq⟩ : ∃ q, q = r + n := ⟨_, rfl⟩
  have f1 : IntKind.i64.wrap ((r : Int) + n) = (q : Int) := by rw [IntWalk.i64_in _ (by omega)]; omega
  rw [← hq] at hR hle W0 ⊢
  have HQ := Lib.hid hq
  clear hq
  go_upto_region 6 with (go_at_call 41; refine RW.out.mono ?_; rintro e w1 ⟨rfl, o1⟩; have O1 := Lib.hid o1; clear o1)
  have T0 := TT.out _ (O1.out.trans (Old.drew w1))
  refine wp_region_noPanic ?_
  refine wp_region_T (fun _ => TG w p l k) 0 (by kernel_rfl) T0 ?_
  refine wpT_take (i := 0) (v := ?_) rfl (by kernel_rfl) (by kernel_rfl) (by kernel_rfl) (Or.inl ⟨by rfl, ?_⟩) ?_
  rotate_left
  · (intro b hb w hT; go_simp; exact Lands.value hT)
  try simp only [Act.put, List.getElem_toArray, List.getElem_cons_succ, List.getElem_cons_zero, List.setIfInBounds_toArray, List.set_cons_zero, List.set_cons_succ]
  refine wpT_take (i := 1) (v := ?_) rfl (by kernel_rfl) (by kernel_rfl) (by kernel_rfl) (Or.inl ⟨by rfl, ?_⟩) ?_
  rotate_left
  · (intro b hb w hT; go_simp; exact Lands.value hT)
  try simp only [Act.put, List.getElem_toArray, List.getElem_cons_succ, List.getElem_cons_zero, List.setIfInBounds_toArray, List.set_cons_zero, List.set_cons_succ]
  refine wpT_take (i := 2) (v := ?_) rfl (by kernel_rfl) (by kernel_rfl) (by kernel_rfl) (Or.inl ⟨by rfl, ?_⟩) ?_
  rotate_left
  · (intro b hb w hT; go_simp; exact Lands.value hT)
  try simp only [Act.put, List.getElem_toArray, List.getElem_cons_succ, List.getElem_cons_zero, List.setIfInBounds_toArray, List.set_cons_zero, List.set_cons_succ]
  refine wpT_take (i := 3) (v := .int .i64 (idxP l q c)) rfl (by kernel_rfl) (by kernel_rfl) (by kernel_rfl) (Or.inl ⟨by rfl, ?_⟩) ?_
  · (intro b hb w hT; go_simp; exact Lands.call (tri_any p l k _ hT.1 hk OK.out q c hR.out hc) fun w' o => TG.old hT o)
  try simp only [Act.put, List.getElem_toArray, List.getElem_cons_succ, List.getElem_cons_zero, List.setIfInBounds_toArray, List.set_cons_zero, List.set_cons_succ]
  refine wpT_take (i := 4) (v := ?_) rfl (by kernel_rfl) (by kernel_rfl) (by kernel_rfl) (Or.inl ⟨by rfl, ?_⟩) ?_
  rotate_left
  · (intro b hb w hT; go_simp; exact Lands.value hT)
  try simp only [Act.put, List.getElem_toArray, List.getElem_cons_succ, List.getElem_cons_zero, List.setIfInBounds_toArray, List.set_cons_zero, List.set_cons_succ]
  refine wpT_take (i := 5) (v := ?_) rfl (by kernel_rfl) (by kernel_rfl) (by kernel_rfl) (Or.inl ⟨by rfl, ?_⟩) ?_
  rotate_left
  · (intro b hb w hT; have h0 := hT.1.c0; have h1 := hT.1.c1; go_simp; exact Lands.value hT)
  try simp only [Act.put, List.getElem_toArray, List.getElem_cons_succ, List.getElem_cons_zero, List.setIfInBounds_toArray, List.set_cons_zero, List.set_cons_succ]
  refine wpT_take (i := 6) (v := ?_) rfl (by kernel_rfl) (by kernel_rfl) (by kernel_rfl) (Or.inl ⟨by rfl, ?_⟩) ?_
  rotate_left
  · (intro b hb w hT; go_simp; exact Lands.value hT)
  try simp only [Act.put, List.getElem_toArray, List.getElem_cons_succ, List.getElem_cons_zero, List.setIfInBounds_toArray, List.set_cons_zero, List.set_cons_succ]
  refine wpT_take (i := 7) (v := ?_) rfl (by kernel_rfl) (by kernel_rfl) (by kernel_rfl) (Or.inl ⟨by rfl, ?_⟩) ?_
  rotate_left
  · (intro b hb w hT; have h0 := hT.1.c0; have h1 := hT.1.c1; go_simp; exact Lands.value hT)
  try simp only [Act.put, List.getElem_toArray, List.getElem_cons_succ, List.getElem_cons_zero, List.setIfInBounds_toArray, List.set_cons_zero, List.set_cons_succ]
  refine wpT_take (i := 8) (v := .int .i64 (IntKind.i64.wrap ((idxP l q c : Int) - (k : Int)))) rfl (by kernel_rfl) (by kernel_rfl) (by kernel_rfl) (Or.inl ⟨by rfl, ?_⟩) ?_
  · (intro b hb w hT; go_simp; exact Lands.value hT)
  try simp only [Act.put, List.getElem_toArray, List.getElem_cons_succ, List.getElem_cons_zero, List.setIfInBounds_toArray, List.set_cons_zero, List.set_cons_succ]
  refine wpT_take (i := 9) (v := ?_) rfl (by kernel_rfl) (by kernel_rfl) (by kernel_rfl) (Or.inl ⟨by rfl, ?_⟩) ?_
  rotate_left
  · (intro b hb w hT; go_simp; exact Lands.value hT)
  try simp only [Act.put, List.getElem_toArray, List.getElem_cons_succ, List.getElem_cons_zero, List.setIfInBounds_toArray, List.set_cons_zero, List.set_cons_succ]
  refine wpT_done (by kernel_rfl) ?_ _
  intro wt hT
  refine NoPanic.normal ?_
  go_wp2_with fail
  go_ret
  exact ⟨ret_int W0.out.symm, hT.2⟩
end
end Go.Proofs.YtleamondilmojaaDoor
