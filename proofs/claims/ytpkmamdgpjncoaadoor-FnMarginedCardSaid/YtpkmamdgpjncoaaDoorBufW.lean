/- bytes.Buffer in a struct's field: Write, Reset, Bytes, String. -/
import Derived.Test.YtpkmamdgpjncoaaDoorBufG
import Derived.Laws.CopyRow
import Derived.Laws.IdiomCopy
namespace Go.Proofs.YtpkmamdgpjncoaaDoor
open Go.RowKit
set_option linter.unusedVariables false
set_option linter.unusedSimpArgs false
set_option linter.unnecessarySimpa false
set_option maxRecDepth 100000

theorem info_byteG : (Tryd.prog.info? 5).map (fun i => (i.zero, i.size, i.bytes)) = some (some (.int .u8 0), 1, 1) := by kernel_rfl
theorem info_byteS : (Tryd.prog.info? 5).map (·.size) = some 1 := by kernel_rfl
theorem gr_any {w : World} {b o : Nat} {T : TypeId} {K : Value → Int → Array Value} {B : Nat} {v : Value} {l : List UInt8} (h : BB w b o T K B v l) (n : Nat) (ao : Option Addr) (cap : Nat) (hv : v = .slice ao l.length cap) (hroom : cap - l.length < n) (hlim : l.length + n ≤ 1000000) :
    Calls Tryd.prog 69 #[.pointer (some ⟨b, o, none⟩), .int .i64 n] w fun e w' => e = .returned (.int .i64 l.length) ∧ Room w w' b T K l n := by
  rcases own_two h.own with ⟨h1, h2, h3⟩ | ⟨g, cap', cur, hv', h1, h2, h3, h4, h5, h6⟩
  · obtain rfl := List.eq_nil_of_length_eq_zero h3
    subst h1
    injection hv with e1 e2 e3
    subst e3
    have hn : 1 ≤ n := by simp at hroom; omega
    simp at hlim
    by_cases h64 : n ≤ 64
    · exact grs_any h n hn h64
    · exact grb_any h n (by omega) hlim
  · have e := hv.symm.trans hv'
    injection e with e1 e2 e3
    subst e3
    exact gro_any h g cap l.length n cur rfl hv' h2 h3 h5 (by omega) h6 hroom hlim
/-- What is left behind a copy to the row's end. -/
theorem write_end {w W : World} {b o : Nat} {T : TypeId} {K : Value → Int → Array Value} {B : Nat} {v : Value} {l d : List UInt8} {lr : Int} {g cap : Nat} {cur : Array Value} (hC : Ctx K o) (hB : B ≤ g) (hgb : g ≠ b) (hb : W.heap[b]? = some (.cells (K (.slice (some ⟨g, 0, none⟩) (l.length + d.length) cap) lr) T)) (hg : W.heap[g]? = some (.cells cur 5)) (hs : cur.size = cap) (hc : l.length + d.length ≤ cap) (hm : cap ≤ maxLen) (htk : cur.toList.take l.length = byV l)
    (hx : Fr [some b, v.ownBlock] w W) (hv : v.ownBlock = some g ∨ w.heap.size ≤ g) :
    BB (W.setRow g (cur.toList.take l.length ++ byV d ++ cur.toList.drop (l.length + d.length)).toArray) b o T K B (.slice (some ⟨g, 0, none⟩) (l.length + d.length) cap) (l ++ d) ∧
      Nx w v (.slice (some ⟨g, 0, none⟩) (l.length + d.length) cap) ∧ Fr [some b, v.ownBlock] w (W.setRow g (cur.toList.take l.length ++ byV d ++ cur.toList.drop (l.length + d.length)).toArray) := by
  have hl : (cur.toList.take l.length).length = l.length := by rw [htk, byV_len]
  refine ⟨⟨hC, ⟨lr, (setRow_other W g b _ (Ne.symm hgb)).trans hb⟩, ?_, by simp [Value.ownBlock]; exact hgb⟩, ?_, ?_⟩
  · rw [List.length_append]
    refine own_mk hB (setRow_heap W g cur _ 5 (0, 0) hg) hc hm ?_ ?_
    · have hcl : cur.toList.length = cap := by rw [Array.length_toList]; exact hs
      rw [List.size_toArray, List.length_append, List.length_append, hl, byV_len, List.length_drop, hcl]; omega
    · show List.take _ (cur.toList.take l.length ++ byV d ++ _) = _
      rw [htk, byV_app]
      have : (byV l ++ byV d).length = l.length + d.length := by rw [List.length_append, byV_len, byV_len]
      rw [← this, List.take_left]
  · rcases hv with hv | hv
    · exact .inl hv.symm
    · exact .inr ⟨g, hv, rfl⟩
  · refine ⟨hx.os, hx.tape, hx.output, by rw [size_setRow]; exact hx.size, fun k hk hn => ?_⟩
    have hkg : k ≠ g := by
      rintro rfl
      rcases hv with hv | hv
      · exact hn (by rw [hv]; simp)
      · omega
    rw [setRow_other W g k _ hkg]
    exact hx.block k hk hn
theorem BB.last {w : World} {b o : Nat} {T : TypeId} {K : Value → Int → Array Value} {B : Nat} {v : Value} {l : List UInt8} (h : BB w b o T K B v l) (x : Int) : BB (w.setCell ⟨b, o + 2, none⟩ (.int .i8 x)) b o T K B v l := by
  obtain ⟨lr, hc⟩ := h.cells
  have e := fset (j := o + 2) hc (.int .i8 x)
  rw [h.ctx.s2] at e
  exact ⟨h.ctx, ⟨x, e⟩, fown_same h.own (fun g hg => Below.heap_setCell w ⟨b, o + 2, none⟩ _ g (fun e => h.ne (by rw [hg, e]))), h.ne⟩
theorem len_pos_shape {n cap l : Nat} (h : n ≤ cap - l) (hlc : l ≤ cap) : l + n ≤ cap := by omega
set_option maxHeartbeats 4000000 in
theorem bw_any {w : World} {b o : Nat} {T : TypeId} {K : Value → Int → Array Value} {B : Nat} {v : Value} {l : List UInt8} (h : BB w b o T K B v l) (d : List UInt8) (n : Nat) (hn : n = d.length) (a : Addr) (c : Nat) (hab : a.block ≠ b) (hsrc : ∀ j (hj : j < d.length), w.cell? (a.add j) = some (.int .u8 (d[j].toNat : Int))) (h0 : 0 < n) (hlim : l.length + n ≤ 1000000) (hB : B ≤ w.heap.size) :
    Calls Tryd.prog 55 #[.pointer (some ⟨b, o, none⟩), .slice (some a) n c] w fun e w' => e = .returned (.tuple #[.int .i64 n, .nilIface]) ∧ ∃ v', BB w' b o T K B v' (l ++ d) ∧ Nx w v v' ∧ Fr [some b, v.ownBlock] w w' := by
  obtain ⟨ao, cap, hv, hlc, hcm⟩ := h.shape
  obtain ⟨lr, c2⟩ := h.c2
  have f2 := h.free (o + 2)
  have H1 := Lib.hid (h.last 0)
  have d0 := (h.last 0).c0
  have g0 := (h.last 0).free o
  have HB := Lib.hid hB
  have HL := Lib.hid h.lt
  have CX := Lib.hid h.ctx
  obtain ⟨m, hm⟩ : ∃ m, m = l.length := ⟨_, rfl⟩
  have HS : Hid (∀ (W : World), Fr [some b] w W → ∀ (j : Nat) x, (byV d)[j]? = some x → W.cell? (a.add j) = some x) := by
    intro W f j x hx
    obtain ⟨hj, rfl⟩ := byV_get hx
    have h2 := hsrc j hj
    have hlt := World.block_lt_of_cell? w _ h2
    have hbl : (a.add j).block = a.block := by unfold Addr.add; split <;> rfl
    rw [World.cell?_of_block (w := w) (a := a.add j) (f.block _ hlt (by rw [hbl]; simp; exact hab))]
    exact h2
  have F1 : Hid (Fr [some b] w (w.setCell ⟨b, o + 2, none⟩ (.int .i8 0))) := Fr.set w b (o + 2) _ (by simp)
  have hvO := h.own
  have HV := Lib.hid hv
  have HM := Lib.hid hm
  have HN := Lib.hid hn
  have HC := Lib.hid hcm
  rw [hv, ← hm] at d0
  rw [← hm] at hlim hlc
  have hcm' := hcm
  unfold maxLen at hcm'
  by_cases hr : n ≤ cap - m
  · -- there is room
    obtain ⟨g, cur, hao, hBg, hg, hcs, htk⟩ : ∃ g cur, ao = some ⟨g, 0, none⟩ ∧ B ≤ g ∧ w.heap[g]? = some (.cells cur 5) ∧ cur.size = cap ∧ cur.toList.take l.length = byV l := by
      rcases own_two hvO with ⟨h1, h2, h3⟩ | ⟨g, cap', cur, hv', h1, h2, h3, h4, h5, h6⟩
      · rw [hv] at h1
        injection h1 with e1 e2 e3
        omega
      · have e := hv.symm.trans hv'
        injection e with e1 e2 e3
        subst e3
        exact ⟨g, cur, e1, h1, h2, h5, h6⟩
    subst hao
    have hgb : g ≠ b := fun e => h.ne (by rw [hv, e]; rfl)
    have W1b := fset (j := o) (show (w.setCell ⟨b, o + 2, none⟩ (.int .i8 0)).heap[b]? = some (.cells (K v 0) T) from by
      obtain ⟨lr', hc⟩ := h.cells
      have e := fset (j := o + 2) hc (.int .i8 0)
      rwa [h.ctx.s2] at e) (.slice (some ⟨g, 0, none⟩) (m + n) cap)
    rw [h.ctx.s0] at W1b
    have W1g : ((w.setCell ⟨b, o + 2, none⟩ (.int .i8 0)).setCell ⟨b, o, none⟩ (.slice (some ⟨g, 0, none⟩) (m + n) cap)).heap[g]? = some (.cells cur 5) := by
      rw [Below.heap_setCell _ _ _ _ hgb, Below.heap_setCell _ _ _ _ hgb]
      exact hg
    have F2 : Hid (Fr [some b] w ((w.setCell ⟨b, o + 2, none⟩ (.int .i8 0)).setCell ⟨b, o, none⟩ (.slice (some ⟨g, 0, none⟩) (m + n) cap))) := F1.out.then_set b o _ (by simp)
    have k0 : ((w.setCell ⟨b, o + 2, none⟩ (.int .i8 0)).setCell ⟨b, o, none⟩ (.slice (some ⟨g, 0, none⟩) (m + n) cap)).cell? ⟨b, o, none⟩ = some (.slice (some ⟨g, 0, none⟩) (m + n) cap) := (fcell W1b o).trans (h.ctx.c0 _ _)
    have hcp := run_copy_row (P := Tryd.prog) _ 49 49 3 5 g m n (cap - m) a n c cur 5 (byV d) Tryd.underlying49 info_byteS W1g (by rw [byV_len, ← hn]; exact (Nat.min_self n).symm) (HS.out _ F2.out) (by rw [byV_len, ← hn]; omega) (byV_one d)
    rw [byV_len, ← hn] at hcp
    have WB := Lib.hid W1b
    have WG := Lib.hid W1g
    have TK := Lib.hid htk
    have GB := Lib.hid hgb
    have hne : ¬ cap = m := by omega
    clear W1b W1g htk hgb h hvO hv hm hn hg hsrc
    generalize hX : (w.setCell ⟨b, o + 2, none⟩ (.int .i8 0)).setCell ⟨b, o, none⟩ (.slice (some ⟨g, 0, none⟩) (m + n) cap) = X at hcp k0 WB WG F2
    go_enter Tryd.func55, Tryd.ntmps55
    go_wp2_with (go_at_call 68; refine (tgr_any b o (some ⟨g, 0, none⟩) m cap n _ d0 g0 hlc HC.out hr).mono ?_; rintro e w2 ⟨rfl, rfl⟩; rw [hX])
    go_ret2
    have e1 := HM.out
    have e2 := HN.out
    subst e1 e2
    have R := write_end (v := v) (lr := 0) CX.out hBg GB.out WB.out WG.out hcs (by omega) HC.out TK.out (F2.out.mono (fun i _ e => by simp at e; simp [e])) (.inl (by rw [HV.out]; rfl))
    rw [List.append_assoc] at R
    exact ⟨rfl, _, R⟩
  · -- there is none
    have hnr : cap - m < n := by omega
    clear h hvO hv hn hsrc hm
    go_enter Tryd.func55, Tryd.ntmps55
    go_wp2_with (first
      | (go_at_call 68; refine (tgn_any b o ao m cap n _ d0 hlc HC.out hnr).mono ?_; rintro e w2 ⟨rfl, rfl⟩)
      | (go_at_call 69; refine (gr_any H1.out n ao cap HV.out (by rw [← HM.out]; exact hnr) (by rw [← HM.out]; exact hlim)).mono ?_
         rintro e w3 ⟨rfl, g, cap3, cells, lr3, r1, r2, r3, r4, r5, r6, r7, r8⟩
         have F3 : Hid (Fr [some b] w w3) := F1.out.trans r8 (fun _ _ e => e)
         have k0 : w3.cell? ⟨b, o, none⟩ = some (.slice (some ⟨g, 0, none⟩) (l.length + n) cap3) := (fcell r1 o).trans (CX.out.c0 _ _)
         have hcp := run_copy_row (P := Tryd.prog) w3 49 49 3 5 g m n (cap3 - m) a n c cells 5 (byV d) Tryd.underlying49 info_byteS r2 (by rw [byV_len, ← HN.out]; exact (Nat.min_self n).symm) (HS.out _ F3.out) (by rw [byV_len, ← HN.out, r3]; have := HM.out; omega) (byV_one d)
         rw [byV_len, ← HN.out] at hcp
         have hm := HM.out
         rw [← hm] at k0 r5 ⊢
         clear hm
         have hc6 := r6
         unfold maxLen at hc6
         have hne : ¬ cap3 = m := by omega
         have R1 := Lib.hid r1
         have R2 := Lib.hid r2
         have R4 := Lib.hid r4
         have R7 := Lib.hid r7
         have R6 := Lib.hid r6
         clear r1 r2 r4 r7 r8 r6))
    go_ret2
    have e1 := HM.out
    have e2 := HN.out
    subst e1 e2
    have hsz : w.heap.size ≤ g := by have := R7.out; simpa [World.setCell] using this
    have R := write_end (w := w) (B := B) (v := v) (lr := lr3) CX.out (by have := HB.out; omega) (by have := HL.out; omega) R1.out R2.out r3 r5 R6.out R4.out (F3.out.mono (fun i _ e => by simp at e; simp [e])) (.inr hsz)
    rw [List.append_assoc] at R
    exact ⟨rfl, _, R⟩
end Go.Proofs.YtpkmamdgpjncoaaDoor
