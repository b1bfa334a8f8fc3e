/- padding.Writer: Flush, and what it leaves alone. -/
import Derived.Test.YtpkmamdgpjncoaaDoorPadY
namespace Go.Proofs.YtpkmamdgpjncoaaDoor
open Go.RowKit
set_option linter.unusedVariables false
set_option linter.unusedSimpArgs false
set_option linter.unnecessarySimpa false
set_option maxRecDepth 100000

theorem fl_endF {w w2 w3 : World} {q p B width k : Nat} {pf v rb v' cv' : Value} {m m' : List UInt8} (h : AW w q p 3 71 (pdC width pf q (.slice none 0 0) 0 k) B v rb m) (f2 : Fr [some p] w w2) (hm : m' = m) (h3 : BB w3 p 6 71 (fun cv cl => pdC width pf q cv cl k v' 0) B cv' m') (f3 : Fr [some p, (Value.slice none 0 0).ownBlock] w2 w3) :
    Fr [some p, (Value.slice none 0 0).ownBlock] w ((w3.setCell ⟨p, 9, none⟩ (.int .i64 0)).setCell ⟨p, 10, none⟩ (.bool false)) := by
  subst hm
  have f : Fr [some p, (Value.slice none 0 0).ownBlock] w ((w3.setCell ⟨p, 9, none⟩ (.int .i64 0)).setCell ⟨p, 10, none⟩ (.bool false)) := ((f2.trans f3 (fun i _ e => by simpa [Value.ownBlock] using e)).mono (fun i _ e => by simpa [Value.ownBlock] using e) |>.then_set p _ _ (by simp)).then_set p _ _ (by simp)
  exact f
set_option maxHeartbeats 4000000 in
theorem fl_anyF {w : World} {q p B width F k : Nat} {pf v rb : Value} {l : List UInt8} (f : Nat → List UInt8) (h : AW w q p 3 71 (pdC width pf q (.slice none 0 0) 0 k) B v rb l) (hp : PadBy f pf q p B width F (.slice none 0 0) 0) (hk : k ≤ 1000000) (hl : l.length + F ≤ 1000000) (hF : (f (width - k)).length ≤ F) :
    Calls Tryd.prog 51 #[.pointer (some ⟨p, 0, none⟩)] w fun e w' => e = .returned .nilIface ∧ Cache w' p B (padEG f width (l, k)) ∧ Below B w w' ∧ Fr [some p, some q, v.ownBlock, rb.ownBlock] w w' := by
  have H := Lib.hid h
  have HP := Lib.hid hp
  have HK := Lib.hid hk
  have HL := Lib.hid hl
  have c9 := h.p9
  by_cases h0 : k = 0
  · subst h0
    have E : padEG f width (l, 0) = l := rfl
    rw [E]
    obtain ⟨lr, hC⟩ := h.buf.cells
    have HC := Lib.hid hC
    clear h hp E hC
    have LL : Hid (([] : List UInt8).length + l.length ≤ 1000000) := by unfold Hid; simp; omega
    go_enter Tryd.func51, Tryd.ntmps51
    go_wp2_with (go_at_call 60
                 refine (rst_any p 6 0 0 none _ _ w HC.out rfl ⟨_, rfl⟩ ⟨_, rfl⟩ (Nat.le_refl _) (by unfold maxLen; omega)).mono ?_
                 rintro e w1 ⟨rfl, h1⟩
                 obtain ⟨lr1, g1, g2, g3, g4, g5, g6⟩ := fl_pre H.out h1
                 have G1 := Lib.hid g1
                 have G2 := Lib.hid g2
                 have G3 := Lib.hid g3
                 have G4 := Lib.hid g4
                 have G5 := Lib.hid g5
                 have G6 := Lib.hid g6
                 clear h1 g1 g2 g3 g4 g5 g6)
    have TW := Lib.hid (pd_two width pf q ((0 : Nat) : Int))
    have HCd : Hid (w1.drew.heap[p]? = some (.cells ((fun v lr cv cl => pdC width pf q cv cl ((0 : Nat) : Int) v lr) v lr1 (.slice none 0 0) 0) 71)) := ((Old.drew w1).heap (flt G1.out)).trans G1.out
    have OWd : Hid (w1.drew.ownsRow B 5 1 v l.length (byV l)) := fown_same G2.out (fun g _ => rfl)
    have BBd : Hid (BB w1.drew p 6 71 ((fun v lr cv cl => pdC width pf q cv cl ((0 : Nat) : Int) v lr) v lr1) B (.slice none 0 0) []) := G4.out.old (Old.drew w1)
    have BSd : Hid (B ≤ w1.drew.heap.size) := G5.out
    go_region_with (
      go_at_call 62
      refine (wto_any TW.out HCd.out OWd.out G3.out BBd.out BSd.out LL.out).mono ?_
      rintro e w3 ⟨rfl, v3, cv3, r1, r2, r3⟩
      have R1 := Lib.hid r1
      have R3 := Lib.hid (Fr.after_old (Old.drew w1) r3)
      obtain ⟨cl3, hC3⟩ := r1.cells
      have k9 := (fcell hC3 9).trans (rfl : _ = some (Value.int .i64 ((0 : Nat) : Int)))
      have j9 := ffree hC3 9
      have hC4 := fset (j := 9) hC3 (.int .i64 0)
      have k10 := (fcell hC4 10).trans (rfl : _ = some (Value.bool false))
      have j10 := ffree hC4 10
      clear r1 r2 r3 hC3 hC4)
    all_goals
      go_wp2_with fail
      go_ret
      have R := fl_end H.out G6.out (List.nil_append _) R1.out R3.out
      have R2 := fl_endF H.out G6.out (List.nil_append _) R1.out R3.out
      exact ⟨rfl, R.1, R.2, R2.mono (fun i _ e => by simp [Value.ownBlock] at e; simp [e])⟩
  · have E : padEG f width (l, k) = l ++ f (width - k) := by unfold padEG; rw [if_neg h0]
    rw [E]
    have LL : Hid (([] : List UInt8).length + (l ++ f (width - k)).length ≤ 1000000) := by unfold Hid; simp; omega
    have hkn : ((k : Int) == 0) = false := by rw [beq_eq_false_iff_ne]; omega
    clear h hp E
    go_enter Tryd.func51, Tryd.ntmps51
    go_wp2_with (first
              | (go_at_call 50
                 refine (HP.out w v rb k l H.out HK.out HL.out).mono ?_
                 rintro e w0 ⟨rfl, v0, rb0, h0', m0⟩
                 have H0 := Lib.hid h0'
                 have M0 := Lib.hid m0
                 obtain ⟨lr0, hC0⟩ := h0'.buf.cells
                 have HC := Lib.hid hC0
                 clear h0' m0 hC0)
              | (go_at_call 60
                 refine (rst_any p 6 0 0 none _ _ w0 HC.out rfl ⟨_, rfl⟩ ⟨_, rfl⟩ (Nat.le_refl _) (by unfold maxLen; omega)).mono ?_
                 rintro e w1 ⟨rfl, h1⟩
                 obtain ⟨lr1, g1, g2, g3, g4, g5, g6⟩ := fl_pre H0.out h1
                 have G1 := Lib.hid g1
                 have G2 := Lib.hid g2
                 have G3 := Lib.hid g3
                 have G4 := Lib.hid g4
                 have G5 := Lib.hid g5
                 have G6 := Lib.hid g6
                 clear h1 g1 g2 g3 g4 g5 g6))
    have TW := Lib.hid (pd_two width pf q (k : Int))
    have HCd : Hid (w1.drew.heap[p]? = some (.cells ((fun v lr cv cl => pdC width pf q cv cl (k : Int) v lr) v0 lr1 (.slice none 0 0) 0) 71)) := ((Old.drew w1).heap (flt G1.out)).trans G1.out
    have OWd : Hid (w1.drew.ownsRow B 5 1 v0 (l ++ f (width - k)).length (byV (l ++ f (width - k)))) := fown_same G2.out (fun g _ => rfl)
    have BBd : Hid (BB w1.drew p 6 71 ((fun v lr cv cl => pdC width pf q cv cl (k : Int) v lr) v0 lr1) B (.slice none 0 0) []) := G4.out.old (Old.drew w1)
    have BSd : Hid (B ≤ w1.drew.heap.size) := G5.out
    go_region_with (
      go_at_call 62
      refine (wto_any TW.out HCd.out OWd.out G3.out BBd.out BSd.out LL.out).mono ?_
      rintro e w3 ⟨rfl, v3, cv3, r1, r2, r3⟩
      have R1 := Lib.hid r1
      have R3 := Lib.hid (Fr.after_old (Old.drew w1) r3)
      obtain ⟨cl3, hC3⟩ := r1.cells
      have k9 := (fcell hC3 9).trans (rfl : _ = some (Value.int .i64 (k : Int)))
      have j9 := ffree hC3 9
      have hC4 := fset (j := 9) hC3 (.int .i64 0)
      have k10 := (fcell hC4 10).trans (rfl : _ = some (Value.bool false))
      have j10 := ffree hC4 10
      clear r1 r2 r3 hC3 hC4)
    all_goals
      go_wp2_with fail
      go_ret
      have R := fl_end H0.out G6.out (List.nil_append _) R1.out R3.out
      have R2 := fl_endF H0.out G6.out (List.nil_append _) R1.out R3.out
      exact ⟨rfl, R.1, (H.out.below M0.out).trans R.2, M0.out.fr.trans R2 (fun i _ e => by simp [Value.ownBlock] at e; simp [e])⟩
end Go.Proofs.YtpkmamdgpjncoaaDoor
