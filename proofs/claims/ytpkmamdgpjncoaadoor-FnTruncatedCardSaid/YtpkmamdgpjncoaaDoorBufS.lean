/- bytes.Buffer in a struct's field: WriteString. -/
import Derived.Test.YtpkmamdgpjncoaaDoorBufW
import Derived.Lib.BufferWrite
namespace Go.Proofs.YtpkmamdgpjncoaaDoor
open Go.RowKit
set_option linter.unusedVariables false
set_option linter.unusedSimpArgs false
set_option linter.unnecessarySimpa false
set_option maxRecDepth 100000

set_option maxHeartbeats 4000000 in
theorem wst_pos {w : World} {b o : Nat} {T : TypeId} {K : Value → Int → Array Value} {B : Nat} {v : Value} {l : List UInt8} (h : BB w b o T K B v l) (d : List UInt8) (n : Nat) (hn : n = d.length) (s : ByteArray) (hs : s = ⟨d.toArray⟩) (h0 : 0 < n) (hlim : l.length + n ≤ 1000000) (hB : B ≤ w.heap.size) :
    Calls Tryd.prog 88 #[.pointer (some ⟨b, o, none⟩), .string s] w fun e w' => e = .returned (.tuple #[.int .i64 n, .nilIface]) ∧ ∃ v', BB w' b o T K B v' (l ++ d) ∧ Nx w v v' ∧ Fr [some b, v.ownBlock] w w' := by
  obtain ⟨ao, cap, hv, hlc, hcm⟩ := h.shape
  obtain ⟨lr, c2⟩ := h.c2
  have f2 := h.free (o + 2)
  have H1 := Lib.hid (h.last 0)
  have d0 := (h.last 0).c0
  have g0 := (h.last 0).free o
  have HB := Lib.hid hB
  have HL := Lib.hid h.lt
  have CX := Lib.hid h.ctx
  obtain ⟨m, hm⟩ : ∃ m, m = l.length := ⟨_, rfl⟩
  have HS : Hid (s.size = n) := by unfold Hid; rw [hs, hn]; simp [ByteArray.size]
  have SB : Hid (Lib.byteCells s.data.toList = byV d) := by rw [hs]; rfl
  have F1 : Hid (Fr [some b] w (w.setCell ⟨b, o + 2, none⟩ (.int .i8 0))) := Fr.set w b (o + 2) _ (by simp)
  have hvO := h.own
  have HV := Lib.hid hv
  have HM := Lib.hid hm
  have HN := Lib.hid hn
  have HC := Lib.hid hcm
  rw [hv, ← hm] at d0
  rw [← hm] at hlim hlc
  have hcm' := hcm
  unfold maxLen at hcm'
  by_cases hr : n ≤ cap - m
  · -- there is room
    obtain ⟨g, cur, hao, hBg, hg, hcs, htk⟩ : ∃ g cur, ao = some ⟨g, 0, none⟩ ∧ B ≤ g ∧ w.heap[g]? = some (.cells cur 5) ∧ cur.size = cap ∧ cur.toList.take l.length = byV l := by
      rcases own_two hvO with ⟨h1, h2, h3⟩ | ⟨g, cap', cur, hv', h1, h2, h3, h4, h5, h6⟩
      · rw [hv] at h1
        injection h1 with e1 e2 e3
        omega
      · have e := hv.symm.trans hv'
        injection e with e1 e2 e3
        subst e3
        exact ⟨g, cur, e1, h1, h2, h5, h6⟩
    subst hao
    have hgb : g ≠ b := fun e => h.ne (by rw [hv, e]; rfl)
    have W1b := fset (j := o) (show (w.setCell ⟨b, o + 2, none⟩ (.int .i8 0)).heap[b]? = some (.cells (K v 0) T) from by
      obtain ⟨lr', hc⟩ := h.cells
      have e := fset (j := o + 2) hc (.int .i8 0)
      rwa [h.ctx.s2] at e) (.slice (some ⟨g, 0, none⟩) (m + n) cap)
    rw [h.ctx.s0] at W1b
    have W1g : ((w.setCell ⟨b, o + 2, none⟩ (.int .i8 0)).setCell ⟨b, o, none⟩ (.slice (some ⟨g, 0, none⟩) (m + n) cap)).heap[g]? = some (.cells cur 5) := by
      rw [Below.heap_setCell _ _ _ _ hgb, Below.heap_setCell _ _ _ _ hgb]
      exact hg
    have F2 : Hid (Fr [some b] w ((w.setCell ⟨b, o + 2, none⟩ (.int .i8 0)).setCell ⟨b, o, none⟩ (.slice (some ⟨g, 0, none⟩) (m + n) cap))) := F1.out.then_set b o _ (by simp)
    have k0 : ((w.setCell ⟨b, o + 2, none⟩ (.int .i8 0)).setCell ⟨b, o, none⟩ (.slice (some ⟨g, 0, none⟩) (m + n) cap)).cell? ⟨b, o, none⟩ = some (.slice (some ⟨g, 0, none⟩) (m + n) cap) := (fcell W1b o).trans (h.ctx.c0 _ _)
    have hcp := Lib.run_copy_row_string (P := Tryd.prog) _ 49 9 3 5 g m n (cap - m) s cur 5 Tryd.underlying49 info_byteS W1g (by rw [HS.out]; exact Nat.le_refl _) (by rw [HS.out]; omega)
    rw [HS.out, SB.out] at hcp
    have WB := Lib.hid W1b
    have WG := Lib.hid W1g
    have TK := Lib.hid htk
    have GB := Lib.hid hgb
    have hne : ¬ cap = m := by omega
    clear W1b W1g htk hgb h hvO hv hm hn hg hs
    generalize hX : (w.setCell ⟨b, o + 2, none⟩ (.int .i8 0)).setCell ⟨b, o, none⟩ (.slice (some ⟨g, 0, none⟩) (m + n) cap) = X at hcp k0 WB WG F2
    have hsz := HS.out
    go_enter Tryd.func88, Tryd.ntmps88
    go_wp2_with (go_at_call 68; refine (tgr_any b o (some ⟨g, 0, none⟩) m cap n _ d0 g0 hlc HC.out hr).mono ?_; rintro e w2 ⟨rfl, rfl⟩; rw [hX])
    go_ret2
    have e1 := HM.out
    have e2 := HN.out
    subst e1 e2
    have R := write_end (v := v) (lr := 0) CX.out hBg GB.out WB.out WG.out hcs (by omega) HC.out TK.out (F2.out.mono (fun i _ e => by simp at e; simp [e])) (.inl (by rw [HV.out]; rfl))
    rw [List.append_assoc] at R
    exact ⟨rfl, _, R⟩
  · -- there is none
    have hnr : cap - m < n := by omega
    clear h hvO hv hn hs hm
    have hsz := HS.out
    go_enter Tryd.func88, Tryd.ntmps88
    go_wp2_with (first
      | (go_at_call 68; refine (tgn_any b o ao m cap n _ d0 hlc HC.out hnr).mono ?_; rintro e w2 ⟨rfl, rfl⟩)
      | (go_at_call 69; refine (gr_any H1.out n ao cap HV.out (by rw [← HM.out]; exact hnr) (by rw [← HM.out]; exact hlim)).mono ?_
         rintro e w3 ⟨rfl, g, cap3, cells, lr3, r1, r2, r3, r4, r5, r6, r7, r8⟩
         have F3 : Hid (Fr [some b] w w3) := F1.out.trans r8 (fun _ _ e => e)
         have k0 : w3.cell? ⟨b, o, none⟩ = some (.slice (some ⟨g, 0, none⟩) (l.length + n) cap3) := (fcell r1 o).trans (CX.out.c0 _ _)
         have hcp := Lib.run_copy_row_string (P := Tryd.prog) w3 49 9 3 5 g m n (cap3 - m) s cells 5 Tryd.underlying49 info_byteS r2 (by rw [HS.out]; exact Nat.le_refl _) (by rw [HS.out, r3]; have := HM.out; omega)
         rw [HS.out, SB.out] at hcp
         have hm := HM.out
         rw [← hm] at k0 r5 ⊢
         clear hm
         have hc6 := r6
         unfold maxLen at hc6
         have hne : ¬ cap3 = m := by omega
         have R1 := Lib.hid r1
         have R2 := Lib.hid r2
         have R4 := Lib.hid r4
         have R7 := Lib.hid r7
         have R6 := Lib.hid r6
         clear r1 r2 r4 r7 r8 r6))
    go_ret2
    have e1 := HM.out
    have e2 := HN.out
    subst e1 e2
    have hsz : w.heap.size ≤ g := by have := R7.out; simpa [World.setCell] using this
    have R := write_end (w := w) (B := B) (v := v) (lr := lr3) CX.out (by have := HB.out; omega) (by have := HL.out; omega) R1.out R2.out r3 r5 R6.out R4.out (F3.out.mono (fun i _ e => by simp at e; simp [e])) (.inr hsz)
    rw [List.append_assoc] at R
    exact ⟨rfl, _, R⟩
set_option maxHeartbeats 4000000 in
theorem wst_zero {w : World} {b o : Nat} {T : TypeId} {K : Value → Int → Array Value} {B : Nat} {v : Value} {l : List UInt8} (h : BB w b o T K B v l) :
    Calls Tryd.prog 88 #[.pointer (some ⟨b, o, none⟩), .string ⟨#[]⟩] w fun e w' => e = .returned (.tuple #[.int .i64 0, .nilIface]) ∧ BB w' b o T K B v l ∧ Fr [some b] w w' := by
  obtain ⟨ao, cap, hv, hlc, hcm⟩ := h.shape
  obtain ⟨lr, c2⟩ := h.c2
  have f2 := h.free (o + 2)
  have d0 := (h.last 0).c0
  have g0 := (h.last 0).free o
  obtain ⟨m, hm⟩ : ∃ m, m = l.length := ⟨_, rfl⟩
  have W1b := fset (j := o) (show (w.setCell ⟨b, o + 2, none⟩ (.int .i8 0)).heap[b]? = some (.cells (K v 0) T) from by
    obtain ⟨lr', hc⟩ := h.cells
    have e := fset (j := o + 2) hc (.int .i8 0)
    rwa [h.ctx.s2] at e) v
  rw [h.ctx.s0] at W1b
  have F2 : Fr [some b] w ((w.setCell ⟨b, o + 2, none⟩ (.int .i8 0)).setCell ⟨b, o, none⟩ v) := (Fr.set w b (o + 2) _ (by simp)).then_set b o _ (by simp)
  have B2 : Hid (BB ((w.setCell ⟨b, o + 2, none⟩ (.int .i8 0)).setCell ⟨b, o, none⟩ v) b o T K B v l) := ⟨h.ctx, ⟨0, W1b⟩, fown_same h.own (fun g hg => F2.block g (fown_lt h.own hg).2 (by simp; rintro rfl; exact h.ne hg)), h.ne⟩
  have FF := Lib.hid F2
  have k0 := (fcell W1b o).trans (h.ctx.c0 _ _)
  have hce : ∀ d dLen dCap W, (Builtin.copy_ #[49, 9] 3 #[.slice d dLen dCap, .string ⟨#[]⟩]).run Tryd.prog W = .ok (goInt 0) W := fun d dLen dCap W => Lib.run_copy_empty_string W 49 9 3 5 d dLen dCap ⟨#[]⟩ Tryd.underlying49 (by rw [info_byteS]; rfl) rfl
  rw [← hm] at hv hlc
  subst hv
  have hcm' := hcm
  unfold maxLen at hcm'
  clear h W1b F2 hm
  generalize hX : (w.setCell ⟨b, o + 2, none⟩ (.int .i8 0)).setCell ⟨b, o, none⟩ (.slice ao m cap) = X at k0 B2 FF
  go_enter Tryd.func88, Tryd.ntmps88
  go_wp2_with (go_at_call 68; refine (tgr_any b o ao m cap 0 _ d0 g0 hlc hcm (by omega)).mono ?_; rintro e w2 ⟨rfl, rfl⟩; rw [Nat.add_zero]; (try rw [hX]))
  all_goals
    go_ret2
    first
      | exact ⟨rfl, B2.out, FF.out⟩
      | (have e : cap = m := by first | assumption | omega
         have h2 := B2.out
         rw [e] at h2
         exact ⟨rfl, h2, FF.out⟩)
theorem wst_any {w : World} {b o : Nat} {T : TypeId} {K : Value → Int → Array Value} {B : Nat} {v : Value} {l : List UInt8} (h : BB w b o T K B v l) (d : List UInt8) (hlim : l.length + d.length ≤ 1000000) (hB : B ≤ w.heap.size) :
    Calls Tryd.prog 88 #[.pointer (some ⟨b, o, none⟩), .string ⟨d.toArray⟩] w fun e w' => e = .returned (.tuple #[.int .i64 d.length, .nilIface]) ∧ ∃ v', BB w' b o T K B v' (l ++ d) ∧ Nx w v v' ∧ Fr [some b, v.ownBlock] w w' := by
  by_cases h0 : d.length = 0
  · obtain rfl := List.eq_nil_of_length_eq_zero h0
    refine (wst_zero h).mono ?_
    rintro e w' ⟨rfl, h1, h2⟩
    exact ⟨rfl, v, by rwa [List.append_nil], .inl rfl, h2.mono (fun i _ e => by simp at e; simp [e])⟩
  · exact wst_pos h d _ rfl _ rfl (by omega) hlim hB
end Go.Proofs.YtpkmamdgpjncoaaDoor
