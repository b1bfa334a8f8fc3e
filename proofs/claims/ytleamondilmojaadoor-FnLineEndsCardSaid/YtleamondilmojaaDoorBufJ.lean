/- (*Buffer).NewLine without a margin, (*Buffer).JoinNextLine. (Printed by mkbufj.py.) -/
import Derived.Test.YtleamondilmojaaDoorBufX
import Derived.Test.YtleamondilmojaaDoorZz
import Derived.Test.YtleamondilmojaaDoorAnyX
import Derived.Test.YtleamondilmojaaDoorStepA
namespace Go.Proofs.YtleamondilmojaaDoor
open Go.RowKit
set_option linter.unusedVariables false
set_option linter.unusedSimpArgs false
set_option linter.unnecessarySimpa false
set_option maxRecDepth 100000

/-- A text without what of some signs it begins with. -/
def trimM (S l : Bs) : Bs := l.drop (flen (setP S true) l)
theorem ext_postE {l : Bs} {k : Nat} : (tx l).extract k l.length = tx (l.drop k) := by
  rw [extract_eq, bs_tx]; congr 1
  rw [List.take_of_length_le (by simp)]
theorem flen_at {p : UInt8 → Bool} {l : Bs} {k : Nat} (hk : k < l.length) (h : ∀ j (hj : j < l.length), j < k → p l[j] = false) (e : p l[k] = true) : flen p l = k := by
  have h1 := fidx_at hk h e
  have h2 := (fidx_flen (p := p) (l := l) (by rw [h1]; omega)).1
  omega
theorem setP_neg {S : Bs} {c : UInt8} {b : Bool} (h : hasb S c = b) : setP S true c = !b := by unfold setP; rw [h]; cases b <;> rfl
set_option maxHeartbeats 1000000 in
theorem tl_any (l S : Bs) (w : World) (ok : okT l) (okS : okT S) : Calls Tryd.prog 112 #[.string (tx l), .string (tx S)] w fun e w' => e = .returned (.string (tx (trimM S l))) ∧ Old w w' := by
  have OK := Lib.hid ok
  have OKS := Lib.hid okS
  have hn := ok.n
  clear ok okS
  have HL : Hid ((tx l).size = l.length) := tx_size l
  have hsz : (tx l).size = l.length := tx_size l
  go_enter Tryd.func112, Tryd.ntmps112
  go_wp2
  go_loopw [6] (fun _ wr => ∃ q : Nat, q ≤ l.length ∧ wr.heap[w.heap.size]? = some (.stringIter (tx l) q) ∧ Old w wr ∧ ∀ j (hj : j < l.length), j < q → setP S true l[j] = false) (fun _ wr => l.length - wr.iterPos w.heap.size)
  case atStart => exact ⟨0, Nat.zero_le _, World.iter_heap _ _ _, Old.alloc _ _, fun j hj h => absurd h (by omega)⟩
  case round =>
    obtain ⟨q, hk, hit, hold, hall⟩ := hrel
    have AL := Lib.hid hall
    have OO := Lib.hid hold
    have IT := Lib.hid hit
    clear hold hall
    by_cases hq : q < l.length
    · have hq2 : q < (tx l).size := by rw [HL.out]; exact hq
      have hg : (tx l)[q]'hq2 = l[q]'hq := get_tx hq hq2
      have hn := Lib.run_next_ascii_at (P := Tryd.prog) wr w.heap.size (tx l) q 0 hit hq2 (by rw [hg]; exact asc_get OK.out hq)
      rw [hg] at hn
      obtain ⟨b, hb⟩ : ∃ b, b = l[q]'hq := ⟨_, rfl⟩
      rw [← hb] at hn
      have HB := Lib.hid hb
      have I2 : Hid ((wr.iterAt w.heap.size (tx l) (q + 1)).heap[w.heap.size]? = some (.stringIter (tx l) (q + 1))) := Lib.iterAt_heap _ _ _ _ _ hit
      have O2 : Hid (Old w (wr.iterAt w.heap.size (tx l) (q + 1))) := old_iterAt OO.out (Nat.le_refl _) _ _
      clear hg hq2 hb hit
      generalize hx : wr.iterAt w.heap.size (tx l) (q + 1) = w2 at hn I2 O2
      clear hx
      cases hc : hasb S b with
      | false =>
        have R : Hid (trimM S l = l.drop q) := by
          unfold Hid trimM
          rw [flen_at hq AL.out (by rw [← HB.out, setP_neg hc]; rfl)]
        have HC := Lib.hid hc
        have i1 : (q : Int) ≤ l.length := by omega
        have hex : (tx l).extract q l.length = tx (l.drop q) := ext_postE
        clear hc
        go_wp2_with (go_at_call 133; refine (inSet_any b S _ OKS.out).mono ?_; rw [HC.out]; rintro e w3 ⟨rfl, o3⟩; have O3 := Lib.hid (O2.out.trans o3); clear o3)
        go_ret
        exact ⟨ret_str9 R.out.symm, O3.out⟩
      | true =>
        have HC := Lib.hid hc
        clear hc
        go_wp2_with (go_at_call 133; refine (inSet_any b S _ OKS.out).mono ?_; rw [HC.out]; rintro e w3 ⟨rfl, o3⟩; have O3 := Lib.hid (O2.out.trans o3); have I3 := Lib.hid ((o3.heap (World.lt_of_heapZ I2.out)).trans I2.out); clear o3)
        refine ⟨⟨q + 1, by omega, I3.out, O3.out, fun j hj h => ?_⟩, ?_⟩
        · by_cases e : j = q
          · subst e; rw [← HB.out, setP_neg HC.out]; rfl
          · exact AL.out j hj (by omega)
        · simp only [iterPos_of I3.out, iterPos_of IT.out]; omega
    · obtain rfl : q = l.length := by omega
      have hq2 : ¬ l.length < (tx l).size := by rw [HL.out]; omega
      have hn := Lib.run_next_end_at (P := Tryd.prog) wr w.heap.size (tx l) l.length 0 hit hq2
      have R : Hid (trimM S l = []) := by
        unfold Hid trimM
        rw [flen_none fun j hj => AL.out j hj hj, List.drop_length]
      clear hq2 hit
      go_wp2
      go_ret
      exact ⟨ret_str9 (a := []) R.out.symm, OO.out⟩

theorem doc_kept (bp lb : Nat) (l : Bs) (k : Nat) (pc : Int) (dp : Nat) (w : World) (h : B9 w bp lb l k pc (.pointer (some ⟨dp, 0, none⟩))) (D : DP w dp l k) :
    Calls Tryd.prog 106 #[.pointer (some ⟨bp, 0, none⟩)] w fun e w' => e = .returned (.pointer (some ⟨dp, 0, none⟩)) ∧ Old w w' := by
  have HB := Lib.hid h
  have c2 := h.c2
  have c3 := h.c3
  have g0 := D.c0
  have g1 := D.c1
  clear h D
  go_enter Tryd.func106, Tryd.ntmps106
  go_wp2_with fail
  go_quiet ((go_at_call 62; exact Calls.quiet_of (text_any bp lb l k pc _ _ (HB.out.old (Old.drewN _ _)))))
  go_wp2_with fail
  go_ret
  exact ⟨rfl, Old.drewN _ _⟩

theorem okT_nl : okT [10] := ⟨by decide, by decide⟩
theorem nline_any (bp lb : Nat) (l : Bs) (k : Nat) (pc : Int) (dv : Value) (w : World) (h : B9 w bp lb l k pc dv) (hk : k ≤ l.length) (ok : okT l) :
    Calls Tryd.prog 88 #[.pointer (some ⟨bp, 0, none⟩), .bool false] w (StepPost bp lb (insM l k [10]) (k + 1) pc w) := by
  have H := Lib.hid h
  have OK := Lib.hid ok
  clear h ok
  go_enter Tryd.func88, Tryd.ntmps88
  go_wp2_with (go_at_call 81; refine (insT_any bp lb l k pc dv w H.out hk OK.out [10] okT_nl).mono ?_; rintro e w1 ⟨rfl, h1⟩)
  go_end0
  exact ⟨rfl, h1⟩

theorem last_of_end {l : Bs} {k : Nat} (hk : k ≤ l.length) (h : ¬ k + (lineA l k).length < l.length) : row l k + 1 = (splitL l).length := by
  have hr := lineA_room l k
  have hf : flen nl (l.drop k) = (l.drop k).length := by rw [← lineA_len, List.length_drop]; omega
  have h0 : (l.drop k).countP nl = 0 := by
    rw [List.countP_eq_zero]
    intro c hc
    unfold flen at hf
    have := List.findIdx_eq_length.1 hf c hc
    simpa using this
  have hc : l.countP nl = (l.take k).countP nl + (l.drop k).countP nl := by rw [← List.countP_append, List.take_append_drop]
  rw [splitL_len]
  unfold row
  omega
/-- The next line joined to the cursor's behind a separator. -/
def joinM (l : Bs) (k : Nat) (sep : Bs) : Bs := (delM l (k + (lineA l k).length) 1).take (k + (lineA l k).length) ++ sep ++ trimM [32] ((delM l (k + (lineA l k).length) 1).drop (k + (lineA l k).length))
/-- Within JoinNextLine, ahead of the cursor's step. -/
def TJ (W0 : World) (bp lb : Nat) (l : Bs) (k : Nat) (pc : Int) (dp : Nat) (w : World) : Prop :=
  B9 w bp lb l k pc (.pointer (some ⟨dp, 0, none⟩)) ∧ DP w dp l k ∧ Two bp lb W0 w
theorem TJ.old {W0 w w' : World} {bp lb : Nat} {l : Bs} {k : Nat} {pc : Int} {dp : Nat} (h : TJ W0 bp lb l k pc dp w) (o : Old w w') : TJ W0 bp lb l k pc dp w' := ⟨h.1.old o, h.2.1.old o, h.2.2.old o⟩
def VJ (bp dp k a m : Nat) (i : Nat) (v : Value) : Prop := match i with
  | 2 => v = .pointer (some ⟨bp, 2, none⟩)
  | 3 => v = .int .i64 k
  | 5 => v = .pointer (some ⟨dp, 0, none⟩)
  | 6 => v = .int .i64 a
  | 7 => v = .int .i64 m
  | 9 => v = .pointer (some ⟨bp, 2, none⟩)
  | _ => v = .pointer (some ⟨bp, 0, none⟩)
def WJ (i : Nat) (v : Value) (w : World) : Prop := True
def blkJ (i : Nat) (v : Value) : Option Nat := none
theorem delM_ok {l : Bs} (ok : okT l) (k n : Nat) : okT (delM l k n) := ⟨fun c hc => by
  unfold delM at hc
  rcases List.mem_append.1 hc with h | h
  · exact (ok.take k).a c h
  · exact (ok.drop (k + n)).a c h, by have := ok.n; unfold delM; simp; omega⟩
theorem delM_len {l : Bs} {k : Nat} (h : k < l.length) : (delM l k 1).length = l.length - 1 := by unfold delM; simp; omega
theorem trimM_le (S l : Bs) : (trimM S l).length ≤ l.length := by unfold trimM; simp
set_option maxHeartbeats 2000000 in
theorem join_any (bp lb : Nat) (l : Bs) (k : Nat) (pc : Int) (dv : Value) (w : World) (h : B9 w bp lb l k pc dv) (hk : k ≤ l.length) (ok : okT l) (sep : Bs) (oks : okT sep) :
    Calls Tryd.prog 89 #[.pointer (some ⟨bp, 0, none⟩), .string (tx sep)] w (StepPost bp lb (if row l k + 1 = (splitL l).length then l else joinM l k sep) (if row l k + 1 = (splitL l).length then k else k + (lineA l k).length) pc w) := by
  have H := Lib.hid h
  have OK := Lib.hid ok
  have OS := Lib.hid oks
  have hn := ok.n
  have hsn := oks.n
  clear h ok oks
  have LS := Lib.hid (fun dp w' D => onlast_any dp l k w' D hk OK.out)
  by_cases hr : row l k + 1 = (splitL l).length
  · rw [if_pos hr, if_pos hr]
    have DL := Lib.hid (show decide (row l k + 1 = (splitL l).length) = true by simpa using hr)
    clear hr
    go_enter Tryd.func89, Tryd.ntmps89
    go_wp2_with (first
      | (go_at_call 106; refine (doc_any bp lb l k pc dv w H.out).mono ?_; rintro e w3 ⟨dp, rfl, d3, b3, t3, n31, n32⟩; have D3 := Lib.hid d3; have B3 := Lib.hid b3; have T3 := Lib.hid t3; clear d3 b3 t3 n31 n32)
      | (go_at_call 44; refine (LS.out dp w3 D3.out).mono ?_; rw [DL.out]; rintro e w4 ⟨rfl, o4⟩; have B4 := Lib.hid (B3.out.old o4); have T4 := Lib.hid (T3.out.old o4); clear o4))
    go_end0
    exact ⟨rfl, ⟨_, B4.out⟩, T4.out⟩
  · rw [if_neg hr, if_neg hr]
    have DL := Lib.hid (show decide (row l k + 1 = (splitL l).length) = false by simpa using hr)
    have hlt : k + (lineA l k).length < l.length := Decidable.byContradiction fun hh => hr (last_of_end hk hh)
    have EO0 := fun dp w' D => eol_any dp l k w' D hk OK.out
    obtain ⟨a, ha⟩ : ∃ a, a = (lineA l k).length := ⟨_, rfl⟩
    have HJ : Hid (joinM l k sep = (delM l (k + a) 1).take (k + a) ++ sep ++ trimM [32] ((delM l (k + a) 1).drop (k + a))) := by rw [ha]; rfl
    rw [← ha] at hlt EO0 ⊢
    have EO := Lib.hid EO0
    clear ha EO0 hr
    obtain ⟨m, hm⟩ : ∃ m, m = k + a := ⟨_, rfl⟩
    rw [← hm] at HJ ⊢
    have hml : m < l.length := by omega
    have OM := Lib.hid (delM_ok OK.out m 1)
    have hle : m ≤ (delM l m 1).length := by rw [delM_len hml]; omega
    have hex := tx_append ((delM l m 1).take m) sep
    have hex2 := tx_append ((delM l m 1).take m ++ sep) (trimM [32] ((delM l m 1).drop m))
    rw [← HJ.out] at hex2
    have hcat : ¬ 9223372036854775807 < (tx ((delM l m 1).take m)).size + (tx sep).size := by
      have h1 := (OM.out.take m).n
      rw [tx_size, tx_size]; omega
    have hcat2 : ¬ 9223372036854775807 < (tx ((delM l m 1).take m ++ sep)).size + (tx (trimM [32] ((delM l m 1).drop m))).size := by
      have h1 := (OM.out.take m).n
      have h2 := (OM.out.drop m).n
      have h3 := trimM_le [32] ((delM l m 1).drop m)
      rw [tx_size, tx_size, List.length_append]; omega
    have f1 : IntKind.i64.wrap ((k : Int) + a) = (m : Int) := by rw [IntWalk.i64_in _ (by omega)]; omega
    have DE := Lib.hid (fun dv' w' H' => del_any bp lb l m pc dv' w' H' (by omega) OK.out 1 (by omega))
    have TB := Lib.hid (fun dp w' D => tb_any dp (delM l m 1) m w' D hle OM.out)
    have TA := Lib.hid (fun dp w' D => ta_any dp (delM l m 1) m w' D hle OM.out)
    have TL := Lib.hid (fun w' => tl_any ((delM l m 1).drop m) [32] w' (OM.out.drop m) ⟨by decide, by decide⟩)
    rw [if_pos hml] at DE
    clear hm
    have F1 := Lib.hid f1
    clear f1
    go_enter Tryd.func89, Tryd.ntmps89
    go_upto_region 1 with (first
      | (go_at_call 106; refine (doc_any bp lb l k pc dv w H.out).mono ?_; rintro e w3 ⟨dp, rfl, d3, b3, t3, n31, n32⟩; have D3 := Lib.hid d3; have B3 := Lib.hid b3; have T3 := Lib.hid t3; have N3 := Lib.hid n31; clear d3 b3 t3 n31 n32)
      | (go_at_call 44; refine (LS.out dp w3 D3.out).mono ?_; rw [DL.out]; rintro e w4 ⟨rfl, o4⟩; have B4 := Lib.hid (B3.out.old o4); have T4 := Lib.hid (T3.out.old o4); have D4 := Lib.hid (D3.out.old o4); clear o4))
    have T0 : TJ w bp lb l k pc dp w4.drew := TJ.old ⟨B4.out, D4.out, T4.out⟩ (Old.drew _)
    have f1 := F1.out
    refine wp_region_noPanic ?_
    refine wp_region_X (TJ w bp lb l k pc dp) (VJ bp dp k a m) (WJ) (fun j => decide (10 ≤ j)) (blkJ) 10 1 (fun _ _ _ _ h _ => h) (by kernel_rfl) T0 rfl ?_
    refine wpX_take (i := 0) rfl (by kernel_rfl) (fun _ => .pointer (some ⟨bp, 0, none⟩)) (fun _ => ⟨rfl, fun b h => by cases h⟩) (by kernel_rfl) (by kernel_rfl) (by kernel_rfl) (by kernel_rfl) rfl ⟨by rfl, ?_⟩ ?_
    · (intro w hT; have h0 := hT.1.c2; go_simp; exact LandsX.value ⟨hT, rfl, trivial, Old.refl _, fun b h => by cases h⟩)
    intro v0 hv0 hf0
    obtain rfl : v0 = _ := hv0
    try simp only [Act.put, List.getElem_toArray, List.getElem_cons_succ, List.getElem_cons_zero, List.setIfInBounds_toArray, List.set_cons_zero, List.set_cons_succ]
    refine wpX_take (i := 1) rfl (by kernel_rfl) (fun _ => .pointer (some ⟨bp, 0, none⟩)) (fun _ => ⟨rfl, fun b h => by cases h⟩) (by kernel_rfl) (by kernel_rfl) (by kernel_rfl) (by kernel_rfl) rfl ⟨by rfl, ?_⟩ ?_
    · (intro w hT; have h0 := hT.1.c2; go_simp; exact LandsX.value ⟨hT, rfl, trivial, Old.refl _, fun b h => by cases h⟩)
    intro v1 hv1 hf1
    obtain rfl : v1 = _ := hv1
    try simp only [Act.put, List.getElem_toArray, List.getElem_cons_succ, List.getElem_cons_zero, List.setIfInBounds_toArray, List.set_cons_zero, List.set_cons_succ]
    refine wpX_take (i := 2) rfl (by kernel_rfl) (fun _ => .pointer (some ⟨bp, 2, none⟩)) (fun _ => ⟨rfl, fun b h => by cases h⟩) (by kernel_rfl) (by kernel_rfl) (by kernel_rfl) (by kernel_rfl) rfl ⟨by rfl, ?_⟩ ?_
    · (intro w hT; have h0 := hT.1.c2; go_simp; exact LandsX.value ⟨hT, rfl, trivial, Old.refl _, fun b h => by cases h⟩)
    intro v2 hv2 hf2
    obtain rfl : v2 = _ := hv2
    try simp only [Act.put, List.getElem_toArray, List.getElem_cons_succ, List.getElem_cons_zero, List.setIfInBounds_toArray, List.set_cons_zero, List.set_cons_succ]
    refine wpX_take (i := 3) rfl (by kernel_rfl) (fun _ => .int .i64 k) (fun _ => ⟨rfl, fun b h => by cases h⟩) (by kernel_rfl) (by kernel_rfl) (by kernel_rfl) (by kernel_rfl) rfl ⟨by rfl, ?_⟩ ?_
    · (intro w hT; have h0 := hT.1.c2; go_simp; exact LandsX.value ⟨hT, rfl, trivial, Old.refl _, fun b h => by cases h⟩)
    intro v3 hv3 hf3
    obtain rfl : v3 = _ := hv3
    try simp only [Act.put, List.getElem_toArray, List.getElem_cons_succ, List.getElem_cons_zero, List.setIfInBounds_toArray, List.set_cons_zero, List.set_cons_succ]
    refine wpX_take (i := 4) rfl (by kernel_rfl) (fun _ => .pointer (some ⟨bp, 0, none⟩)) (fun _ => ⟨rfl, fun b h => by cases h⟩) (by kernel_rfl) (by kernel_rfl) (by kernel_rfl) (by kernel_rfl) rfl ⟨by rfl, ?_⟩ ?_
    · (intro w hT; have h0 := hT.1.c2; go_simp; exact LandsX.value ⟨hT, rfl, trivial, Old.refl _, fun b h => by cases h⟩)
    intro v4 hv4 hf4
    obtain rfl : v4 = _ := hv4
    try simp only [Act.put, List.getElem_toArray, List.getElem_cons_succ, List.getElem_cons_zero, List.setIfInBounds_toArray, List.set_cons_zero, List.set_cons_succ]
    refine wpX_take (i := 5) rfl (by kernel_rfl) (fun _ => .pointer (some ⟨dp, 0, none⟩)) (fun _ => ⟨rfl, fun b h => by cases h⟩) (by kernel_rfl) (by kernel_rfl) (by kernel_rfl) (by kernel_rfl) rfl ⟨by rfl, ?_⟩ ?_
    · (intro w hT; go_simp; exact LandsX.enter ((doc_kept bp lb l k pc dp w hT.1 hT.2.1).mono fun e w' h => by obtain ⟨he, o⟩ := h; exact ⟨_, he, hT.old o, rfl, trivial, o, fun b h => by cases h⟩))
    intro v5 hv5 hf5
    obtain rfl : v5 = _ := hv5
    try simp only [Act.put, List.getElem_toArray, List.getElem_cons_succ, List.getElem_cons_zero, List.setIfInBounds_toArray, List.set_cons_zero, List.set_cons_succ]
    refine wpX_take (i := 6) rfl (by kernel_rfl) (fun _ => .int .i64 a) (fun _ => ⟨rfl, fun b h => by cases h⟩) (by kernel_rfl) (by kernel_rfl) (by kernel_rfl) (by kernel_rfl) rfl ⟨by rfl, ?_⟩ ?_
    · (intro w hT; go_simp; exact LandsX.enter ((EO.out dp w hT.2.1).mono fun e w' h => by obtain ⟨he, o⟩ := h; exact ⟨_, he, hT.old o, rfl, trivial, o, fun b h => by cases h⟩))
    intro v6 hv6 hf6
    obtain rfl : v6 = _ := hv6
    try simp only [Act.put, List.getElem_toArray, List.getElem_cons_succ, List.getElem_cons_zero, List.setIfInBounds_toArray, List.set_cons_zero, List.set_cons_succ]
    refine wpX_take (i := 7) rfl (by kernel_rfl) (fun _ => .int .i64 m) (fun _ => ⟨rfl, fun b h => by cases h⟩) (by kernel_rfl) (by kernel_rfl) (by kernel_rfl) (by kernel_rfl) rfl ⟨by rfl, ?_⟩ ?_
    · (intro w hT; have h0 := hT.1.c2; go_simp; exact LandsX.value ⟨hT, rfl, trivial, Old.refl _, fun b h => by cases h⟩)
    intro v7 hv7 hf7
    obtain rfl : v7 = _ := hv7
    try simp only [Act.put, List.getElem_toArray, List.getElem_cons_succ, List.getElem_cons_zero, List.setIfInBounds_toArray, List.set_cons_zero, List.set_cons_succ]
    refine wpX_take (i := 8) rfl (by kernel_rfl) (fun _ => .pointer (some ⟨bp, 0, none⟩)) (fun _ => ⟨rfl, fun b h => by cases h⟩) (by kernel_rfl) (by kernel_rfl) (by kernel_rfl) (by kernel_rfl) rfl ⟨by rfl, ?_⟩ ?_
    · (intro w hT; have h0 := hT.1.c2; go_simp; exact LandsX.value ⟨hT, rfl, trivial, Old.refl _, fun b h => by cases h⟩)
    intro v8 hv8 hf8
    obtain rfl : v8 = _ := hv8
    try simp only [Act.put, List.getElem_toArray, List.getElem_cons_succ, List.getElem_cons_zero, List.setIfInBounds_toArray, List.set_cons_zero, List.set_cons_succ]
    refine wpX_take (i := 9) rfl (by kernel_rfl) (fun _ => .pointer (some ⟨bp, 2, none⟩)) (fun _ => ⟨rfl, fun b h => by cases h⟩) (by kernel_rfl) (by kernel_rfl) (by kernel_rfl) (by kernel_rfl) rfl ⟨by rfl, ?_⟩ ?_
    · (intro w hT; have h0 := hT.1.c2; go_simp; exact LandsX.value ⟨hT, rfl, trivial, Old.refl _, fun b h => by cases h⟩)
    intro v9 hv9 hf9
    obtain rfl : v9 = _ := hv9
    try simp only [Act.put, List.getElem_toArray, List.getElem_cons_succ, List.getElem_cons_zero, List.setIfInBounds_toArray, List.set_cons_zero, List.set_cons_succ]
    refine wpX_tail (by kernel_rfl) ?_
    intro wt hT hG
    clear hG hf0 hf1 hf2 hf3 hf4 hf5 hf6 hf7 hf8 hf9
    have c2t := hT.1.c2
    have f2t := hT.1.free 2
    have HT := Lib.hid hT
    clear hT
    refine wpAny_one (i := 10) (by kernel_rfl) rfl (fun K hK => ?_)
    go_simp
    refine hK.out _ _ ?_
    clear hK K
    try simp only [Act.put, List.getElem_toArray, List.getElem_cons_succ, List.getElem_cons_zero, List.setIfInBounds_toArray, List.set_cons_zero, List.set_cons_succ]
    refine wpAny_end (by kernel_rfl) ?_ _
    refine NoPanic.normal ?_
    clear f1 T0 c2t f2t
    have BZ : Hid (B9 (wt.setCell ⟨bp, 2, none⟩ (.int .i64 m)) bp lb l m pc (.pointer (some ⟨dp, 0, none⟩))) := HT.out.1.setC m
    have TZ : Hid (Two bp lb w (wt.setCell ⟨bp, 2, none⟩ (.int .i64 m))) := HT.out.2.2.stored bp 2 _ (Or.inl rfl)
    clear HT
    generalize wt.setCell ⟨bp, 2, none⟩ (.int .i64 m) = wz at BZ TZ ⊢
    go_wp2_with (first
      | (go_at_call 87; refine (DE.out _ wz BZ.out).mono ?_; rintro e w5 ⟨rfl, ⟨dv5, b5⟩, t5⟩; have B5 := Lib.hid b5; have T5 := Lib.hid (TZ.out.trans t5); clear b5 t5)
      | (go_at_call 106; (with_reducible refine (doc_any bp lb (delM l m 1) m pc dv5 w5 B5.out).mono ?_); rintro e w6 ⟨dq, rfl, d6, b6, t6, n61, n62⟩; have D6 := Lib.hid d6; have B6 := Lib.hid b6; have T6 := Lib.hid (T5.out.trans t6); clear d6 b6 t6 n61 n62)
      | (go_at_call 36; refine (TB.out dq w6 D6.out).mono ?_; rintro e w7 ⟨rfl, o7⟩; have B7 := Lib.hid (B6.out.old o7); have T7 := Lib.hid (T6.out.old o7); clear o7)
      | (go_at_call 106; (with_reducible refine (doc_any bp lb (delM l m 1) m pc _ w7 B7.out).mono ?_); rintro e w8 ⟨dr, rfl, d8, b8, t8, n81, n82⟩; have D8 := Lib.hid d8; have B8 := Lib.hid b8; have T8 := Lib.hid (T7.out.trans t8); clear d8 b8 t8 n81 n82)
      | (go_at_call 37; refine (TA.out dr w8 D8.out).mono ?_; rintro e w9 ⟨rfl, o9⟩; have B9 := Lib.hid (B8.out.old o9); have T9 := Lib.hid (T8.out.old o9); clear o9)
      | (go_at_call 112; refine (TL.out w9).mono ?_; rintro e w10 ⟨rfl, o10⟩; have B10 := Lib.hid (B9.out.old o10); have T10 := Lib.hid (T9.out.old o10); clear o10)
      | (go_at_call 93; refine (setText_any bp lb (delM l m 1) (joinM l k sep) m pc _ w10 B10.out).mono ?_; rintro e w11 ⟨rfl, b11, t11⟩; have B11 := Lib.hid b11; have T11 := Lib.hid (T10.out.trans t11); clear b11 t11))
    go_end0
    exact ⟨rfl, ⟨_, B11.out⟩, T11.out⟩
end Go.Proofs.YtleamondilmojaaDoor
