/- padding.Writer without a function of its own: pad. -/
import Derived.Test.YtpkmamdgpjncoaaDoorAnsiC
import Derived.Test.YtpkmamdgpjncoaaDoorPadP
import Derived.Test.YtpkmamdgpjncoaaDoorRepeat
import Derived.BigQuiet
namespace Go.Proofs.YtpkmamdgpjncoaaDoor
open Go.RowKit
set_option linter.unusedVariables false
set_option linter.unusedSimpArgs false
set_option linter.unnecessarySimpa false
set_option maxRecDepth 100000

/-- The cells of a writer that fills up. -/
def pdC (width : Nat) (pf : Value) (q : Nat) (cv : Value) (cl : Int) (k : Int) (v : Value) (lr : Int) : Array Value :=
  #[.int .u64 width, pf, .pointer (some ⟨q, 0, none⟩), v, .int .i64 0, .int .i8 lr, cv, .int .i64 0, .int .i8 cl, .int .i64 k, .bool false]
theorem pdC_ctx (width : Nat) (pf : Value) (q : Nat) (cv : Value) (cl k : Int) : Ctx (pdC width pf q cv cl k) 3 := ⟨fun _ _ => rfl, fun _ _ => rfl, fun _ _ => rfl, fun _ _ _ => rfl, fun _ _ => rfl, fun _ _ _ => rfl⟩
section
variable {w : World} {q p B width : Nat} {pf v rb cv : Value} {cl k : Int} {l : List UInt8}
theorem AW.p0 (h : AW w q p 3 71 (pdC width pf q cv cl k) B v rb l) : w.cell? ⟨p, 0, none⟩ = some (.int .u64 width) := by obtain ⟨lr, hc⟩ := h.buf.cells; exact (fcell hc 0).trans rfl
theorem AW.p1 (h : AW w q p 3 71 (pdC width pf q cv cl k) B v rb l) : w.cell? ⟨p, 1, none⟩ = some pf := by obtain ⟨lr, hc⟩ := h.buf.cells; exact (fcell hc 1).trans rfl
theorem AW.p2 (h : AW w q p 3 71 (pdC width pf q cv cl k) B v rb l) : w.cell? ⟨p, 2, none⟩ = some (.pointer (some ⟨q, 0, none⟩)) := by obtain ⟨lr, hc⟩ := h.buf.cells; exact (fcell hc 2).trans rfl
theorem AW.p9 (h : AW w q p 3 71 (pdC width pf q cv cl k) B v rb l) : w.cell? ⟨p, 9, none⟩ = some (.int .i64 k) := by obtain ⟨lr, hc⟩ := h.buf.cells; exact (fcell hc 9).trans rfl
theorem AW.p10 (h : AW w q p 3 71 (pdC width pf q cv cl k) B v rb l) : w.cell? ⟨p, 10, none⟩ = some (.bool false) := by obtain ⟨lr, hc⟩ := h.buf.cells; exact (fcell hc 10).trans rfl
/-- A cell of the writer's block that is none of the buffer's is set. -/
theorem AW.setK {b o : Nat} {T : TypeId} {K K' : Value → Int → Array Value} (h : AW w q b o T K B v rb l) (j : Nat) (x : Value) (hK : Ctx K' o) (hs : ∀ v lr, (K v lr).setIfInBounds j x = K' v lr) :
    AW (w.setCell ⟨b, j, none⟩ x) q b o T K' B v rb l ∧ Mv w (w.setCell ⟨b, j, none⟩ x) q b v rb v rb := by
  have f : Fr [some b] w (w.setCell ⟨b, j, none⟩ x) := Fr.set w b j x (by simp)
  obtain ⟨lr, hc⟩ := h.buf.cells
  have e := fset (j := j) hc x
  rw [hs] at e
  refine ⟨⟨⟨hK, ⟨lr, e⟩, fown_same h.buf.own (fun g hg => f.block g (fown_lt h.buf.own hg).2 (by simp; rintro rfl; exact h.buf.ne hg)), h.buf.ne⟩, (f.block q (flt h.cells) (by simp; exact h.qb)).trans h.cells, ?_, h.qb, h.vq, h.rq, h.rb_, h.vr, h.lowb, h.lowq, h.lowr⟩, ⟨f.mono (fun i _ e => by simp at e; simp [e]), .inl rfl, .inl rfl⟩⟩
  rcases h.row with hr | ⟨r, x0, x1, x2, x3, hr, h5⟩
  · exact .inl hr
  · exact .inr ⟨r, x0, x1, x2, x3, hr, (f.block r (flt h5) (by simp; rintro rfl; exact h.rb_ (by rw [hr]; rfl))).trans h5⟩
theorem AW.setLen (h : AW w q p 3 71 (pdC width pf q cv cl k) B v rb l) (x : Int) : AW (w.setCell ⟨p, 9, none⟩ (.int .i64 x)) q p 3 71 (pdC width pf q cv cl x) B v rb l ∧ Mv w (w.setCell ⟨p, 9, none⟩ (.int .i64 x)) q p v rb v rb :=
  h.setK 9 _ (pdC_ctx _ _ _ _ _ _) (fun _ _ => rfl)
end
theorem noseq_blk (n : Nat) : noseq (blk n) := fun c hc => by
  have := List.eq_of_mem_replicate hc
  subst this
  exact ⟨by decide, by decide⟩
theorem conv_text (w : World) (d : List UInt8) (hd : d.length ≤ 1000000) : ∃ c w', (convert 9 49 (.string ⟨d.toArray⟩)).run Tryd.prog w = .ok (.slice (some ⟨w.heap.size, 0, none⟩) d.length c) w' ∧ Old w w' ∧ ∀ W, Old w' W → (convert 49 9 (.slice (some ⟨w.heap.size, 0, none⟩) d.length c)).run Tryd.prog W = .ok (.string ⟨d.toArray⟩) W := by
  have hsz : (⟨d.toArray⟩ : ByteArray).size = d.length := by simp [ByteArray.size]
  obtain ⟨c, w', h1, h2, h3, h4, h5, h6⟩ := conv_bytes (P := Tryd.prog) w 9 49 5 ⟨d.toArray⟩ Tryd.underlying9 Tryd.underlying49 Tryd.underlying5 (by rw [hsz]; omega)
  rw [hsz] at h1 h6
  refine ⟨c, w', h1, h2, fun W o => ?_⟩
  refine run_convert_bytes_back (P := Tryd.prog) W 49 9 5 ⟨w.heap.size, 0, none⟩ c d Tryd.underlying49 Tryd.underlying5 Tryd.underlying9 (fun j hj => ?_)
  have hadd : (⟨w.heap.size, 0, none⟩ : Addr).add j = ⟨w.heap.size, j, none⟩ := by unfold Addr.add; split <;> simp_all
  have e := (h6 j hj).1
  rw [gi_nums (by rw [hsz]; exact hj)] at e
  rw [hadd, (o.cell (o := j) (by omega)).trans e]
  rfl
theorem nofunc (W : World) : (binOp .neq 69 .nilFunc .nilFunc).run Tryd.prog W = .ok (.bool false) W := by kernel_rfl
set_option maxHeartbeats 4000000 in
theorem pad_any {w : World} {q p B width k : Nat} {v rb cv : Value} {cl : Int} {l : List UInt8} (h : AW w q p 3 71 (pdC width .nilFunc q cv cl k) B v rb l) (hw : width ≤ 1000) (hk : k ≤ 1000000) (hlim : l.length + width ≤ 1000000) :
    Calls Tryd.prog 50 #[.pointer (some ⟨p, 0, none⟩)] w fun e w' => e = .returned .nilIface ∧ ∃ v' rb', AW w' q p 3 71 (pdC width .nilFunc q cv cl k) B v' rb' (l ++ blk (width - k)) ∧ Mv w w' q p v rb v' rb' := by
  have H := Lib.hid h
  have c0 := h.p0
  have c1 := h.p1
  have c2 := h.p2
  have c9 := h.p9
  have hpl := h.buf.lt
  have hnf := fun W => nofunc W
  have hwr : IntKind.u64.wrap (k : Int) = k := by have := IntKind.wrap_u64 (k : Int); rw [this]; omega
  have hwi : IntKind.i64.wrap (width : Int) = width := by have := IntKind.wrap_i64 (width : Int); rw [this]; omega
  clear h
  by_cases h0 : 0 < width
  · by_cases hkw : k < width
    · have d1 : decide ((width : Int) > 0) = true := by simp; omega
      have d2 : decide ((k : Int) < (width : Int)) = true := by simp; omega
      have hsub : IntKind.i64.wrap ((width : Int) - (k : Int)) = ((width - k : Nat) : Int) := by have := IntKind.wrap_i64 ((width : Int) - (k : Int)); rw [this]; omega
      obtain ⟨m, hm⟩ : ∃ m, m = width - k := ⟨_, rfl⟩
      rw [← hm] at hsub ⊢
      have hm1 : m ≤ 1000 := by omega
      have hl2 : Hid (l.length + (blk m).length ≤ 1000000) := by unfold Hid; rw [blk_len]; omega
      clear hm
      go_enter Tryd.func50, Tryd.ntmps50
      go_wp2_with fail
      go_quiet (fail)
      go_wp2_with fail
      have H0 := Lib.hid (H.out.old (Old.drewN w nq))
      have M0 : Hid (Mv w (w.drewN nq) q p v rb v rb) := Mv.of_old (Old.drewN w nq) _ _ _ _
      have k0 := H0.out.p0
      have k2 := H0.out.p2
      have k9 := H0.out.p9
      generalize w.drewN nq = w1 at H0 M0 k0 k2 k9 ⊢
      clear c0 c1 c2 c9 H
      go_region_with
        (first
          | (go_at_call 67
             refine (rep_any m w1.drew (by omega)).mono ?_
             rintro e w2 ⟨rfl, o2⟩
             have O2 := Lib.hid ((Old.drew w1).trans o2)
             have a0 := (O2.out.cell (o := 0) H0.out.buf.lt).trans k0
             have a2 := (O2.out.cell (o := 2) H0.out.buf.lt).trans k2
             have a9 := (O2.out.cell (o := 9) H0.out.buf.lt).trans k9
             obtain ⟨cc, w3, hcv0, o3, hback⟩ := conv_text w2 (blk m) (by rw [blk_len]; omega)
             have hcv : (convert 9 49 (.string (tx (List.replicate m 32)))).run Tryd.prog w2 = .ok (.slice (some ⟨w2.heap.size, 0, none⟩) (blk m).length cc) w3 := hcv0
             have O3 := Lib.hid (O2.out.trans o3)
             have b0 := (O3.out.cell (o := 0) H0.out.buf.lt).trans k0
             have b2 := (O3.out.cell (o := 2) H0.out.buf.lt).trans k2
             have b9 := (O3.out.cell (o := 9) H0.out.buf.lt).trans k9
             have BK := Lib.hid hback
             clear o2 o3 hback hcv0)
          | (go_at_call 38
             refine (aw_any (H0.out.old O3.out) (blk m) _ rfl _ _ (BK.out _ (Old.refl _)) (noseq_blk m) hl2.out).mono ?_
             rintro e w4 ⟨rfl, v4, rb4, h4, m4⟩
             have H4 := Lib.hid h4
             have M4 := Lib.hid (M0.out.trans (Mv.old_left O3.out m4))
             clear h4 m4))
      all_goals
        go_wp2_with fail
        go_ret
        exact ⟨rfl, v4, rb4, H4.out, M4.out⟩
    · have d2 : decide ((k : Int) < (width : Int)) = false := by simp; omega
      have d1 : decide ((width : Int) > 0) = true := by simp; omega
      go_enter Tryd.func50, Tryd.ntmps50
      go_wp2_with fail
      go_quiet (fail)
      go_wp2_with fail
      go_ret
      have e : width - k = 0 := by omega
      refine ⟨rfl, v, rb, ?_, Mv.of_old (Old.drewN _ _) _ _ _ _⟩
      rw [e]
      simpa [blk] using H.out.old (Old.drewN _ _)
  · obtain rfl : width = 0 := by omega
    go_enter Tryd.func50, Tryd.ntmps50
    go_wp2_with fail
    go_quiet (fail)
    go_wp2_with fail
    go_ret
    refine ⟨rfl, v, rb, ?_, Mv.of_old (Old.drewN _ _) _ _ _ _⟩
    rw [Nat.zero_sub]
    simpa [blk] using H.out.old (Old.drewN _ _)
end Go.Proofs.YtpkmamdgpjncoaaDoor
