/- padding.Writer: NewWriter, Flush, Bytes; padding.String. -/
import Derived.Test.YtpkmamdgpjncoaaDoorPadV
import Derived.Test.YtpkmamdgpjncoaaDoorWto
namespace Go.Proofs.YtpkmamdgpjncoaaDoor
open Go.RowKit
set_option linter.unusedVariables false
set_option linter.unusedSimpArgs false
set_option linter.unnecessarySimpa false
set_option maxRecDepth 100000

theorem wto_any {w : World} {p o1 o2 : Nat} {T : TypeId} {K : Value → Int → Value → Int → Array Value} {B : Nat} {v cv : Value} {lr cl : Int} {l m : List UInt8} (hK : Two K o1 o2) (hC : w.heap[p]? = some (.cells (K v lr cv cl) T)) (own : w.ownsRow B 5 1 v l.length (byV l)) (hvp : v.ownBlock ≠ some p) (h2 : BB w p o2 T (K v lr) B cv m) (hB : B ≤ w.heap.size) (hlim : m.length + l.length ≤ 1000000) :
    Calls Tryd.prog 62 #[.pointer (some ⟨p, o1, none⟩), .iface 63 (.pointer (some ⟨p, o2, none⟩))] w fun e w' => e = .returned (.tuple #[.int .i64 l.length, .nilIface]) ∧ ∃ v' cv', BB w' p o2 T (K v' 0) B cv' (m ++ l) ∧ Nx w cv cv' ∧ Fr [some p, cv.ownBlock] w w' := by
  by_cases h0 : l.length = 0
  · obtain rfl := List.eq_nil_of_length_eq_zero h0
    rw [List.append_nil]
    exact wtn_any hK hC own h2
  · exact wtr_any hK hC own hvp _ rfl (by omega) h2 hB hlim
theorem pd_two (width : Nat) (pf : Value) (q : Nat) (k : Int) : Two (fun v lr cv cl => pdC width pf q cv cl k v lr) 3 6 :=
  ⟨fun cv cl => pdC_ctx _ _ _ _ _ _, fun v lr => ⟨fun _ _ => rfl, fun _ _ => rfl, fun _ _ => rfl, fun _ _ _ => rfl, fun _ _ => rfl, fun _ _ _ => rfl⟩, fun _ _ _ _ _ => rfl, fun _ _ _ _ _ => ⟨_, rfl⟩, fun _ _ _ _ _ => rfl, fun _ _ _ _ _ _ => rfl, fun _ _ _ _ _ => rfl⟩
theorem AW.below {w w' : World} {q b o : Nat} {T : TypeId} {K : Value → Int → Array Value} {B : Nat} {v rb v' rb' : Value} {l : List UInt8} (h : AW w q b o T K B v rb l) (m : Mv w w' q b v rb v' rb') : Below B w w' := by
  have hq := flt h.cells
  have hl := h.lowq
  refine ⟨m.fr.os, m.fr.tape, m.fr.output, m.fr.size, fun k hk => m.fr.block k (by omega) ?_⟩
  simp only [List.mem_cons, List.not_mem_nil, or_false, not_or]
  refine ⟨fun e => ?_, fun e => ?_, fun e => ?_, fun e => ?_⟩
  · injection e with e; have := h.lowb; omega
  · injection e with e; omega
  · have := (fown_lt h.buf.own e.symm).1; omega
  · have := h.lowr _ e.symm; omega
/-- What a closed writer has. -/
def Cache (w : World) (p B : Nat) (m : List UInt8) : Prop := ∃ C cv, w.heap[p]? = some (.cells C 71) ∧ C[6]? = some cv ∧ C[7]? = some (.int .i64 0) ∧ w.ownsRow B 5 1 cv m.length (byV m)
def padEG (f : Nat → List UInt8) (n : Nat) (s : List UInt8 × Nat) : List UInt8 := if s.2 = 0 then s.1 else s.1 ++ f (n - s.2)
theorem AW.bsz {w : World} {q b o : Nat} {T : TypeId} {K : Value → Int → Array Value} {B : Nat} {v rb : Value} {l : List UInt8} (h : AW w q b o T K B v rb l) : B ≤ w.heap.size := by
  have := h.lowq; have := flt h.cells; omega
/-- Behind the cache's Reset. -/
theorem fl_pre {w w2 : World} {q p B width k : Nat} {pf v rb : Value} {m : List UInt8} (h : AW w q p 3 71 (pdC width pf q (.slice none 0 0) 0 k) B v rb m) (h2 : w2 = ((w.setCell ⟨p, 6, none⟩ (.slice none 0 0)).setCell ⟨p, 7, none⟩ (.int .i64 0)).setCell ⟨p, 8, none⟩ (.int .i8 0)) :
    ∃ lr, w2.heap[p]? = some (.cells (pdC width pf q (.slice none 0 0) 0 k v lr) 71) ∧ w2.ownsRow B 5 1 v m.length (byV m) ∧ v.ownBlock ≠ some p ∧ BB w2 p 6 71 (fun cv cl => pdC width pf q cv cl k v lr) B (.slice none 0 0) [] ∧ B ≤ w2.heap.size ∧ Fr [some p] w w2 := by
  obtain ⟨lr, hC⟩ := h.buf.cells
  have f : Fr [some p] w w2 := by rw [h2]; exact (((Fr.refl _ _).then_set p _ _ (by simp)).then_set p _ _ (by simp)).then_set p _ _ (by simp)
  have e : w2.heap[p]? = some (.cells (pdC width pf q (.slice none 0 0) 0 k v lr) 71) := by
    rw [h2]
    exact fset (j := 8) (fset (j := 7) (fset (j := 6) hC (.slice none 0 0)) (.int .i64 0)) (.int .i8 0)
  exact ⟨lr, e, fown_same h.buf.own (fun g hg => f.block g (fown_lt h.buf.own hg).2 (by simp; rintro rfl; exact h.buf.ne hg)), h.buf.ne,
    ⟨(pd_two width pf q k).b v lr, ⟨0, e⟩, World.ownsRow_nil _ _ _ _, by simp [Value.ownBlock]⟩, Nat.le_trans h.bsz f.size, f⟩
theorem fl_end {w w2 w3 : World} {q p B width k : Nat} {pf v rb v' cv' : Value} {m m' : List UInt8} (h : AW w q p 3 71 (pdC width pf q (.slice none 0 0) 0 k) B v rb m) (f2 : Fr [some p] w w2) (hm : m' = m) (h3 : BB w3 p 6 71 (fun cv cl => pdC width pf q cv cl k v' 0) B cv' m') (f3 : Fr [some p, (Value.slice none 0 0).ownBlock] w2 w3) :
    Cache ((w3.setCell ⟨p, 9, none⟩ (.int .i64 0)).setCell ⟨p, 10, none⟩ (.bool false)) p B m ∧ Below B w ((w3.setCell ⟨p, 9, none⟩ (.int .i64 0)).setCell ⟨p, 10, none⟩ (.bool false)) := by
  subst hm
  obtain ⟨cl, hC⟩ := h3.cells
  have e := fset (j := 10) (fset (j := 9) hC (.int .i64 0)) (.bool false)
  have f : Fr [some p, (Value.slice none 0 0).ownBlock] w ((w3.setCell ⟨p, 9, none⟩ (.int .i64 0)).setCell ⟨p, 10, none⟩ (.bool false)) := ((f2.trans f3 (fun i _ e => by simpa [Value.ownBlock] using e)).mono (fun i _ e => by simpa [Value.ownBlock] using e) |>.then_set p _ _ (by simp)).then_set p _ _ (by simp)
  have hp := h.buf.lt
  have hl := h.lowb
  refine ⟨⟨_, cv', e, rfl, rfl, fown_same h3.own (fun g hg => ?_)⟩, ⟨f.os, f.tape, f.output, f.size, fun j hj => f.block j (by omega) (by simp [Value.ownBlock]; omega)⟩⟩
  have hgp : g ≠ p := fun e => h3.ne (by rw [hg, e])
  rw [Below.heap_setCell _ _ _ _ hgp, Below.heap_setCell _ _ _ _ hgp]
set_option maxHeartbeats 4000000 in
theorem fl_any {w : World} {q p B width F k : Nat} {pf v rb : Value} {l : List UInt8} (f : Nat → List UInt8) (h : AW w q p 3 71 (pdC width pf q (.slice none 0 0) 0 k) B v rb l) (hp : PadBy f pf q p B width F (.slice none 0 0) 0) (hk : k ≤ 1000000) (hl : l.length + F ≤ 1000000) (hF : (f (width - k)).length ≤ F) :
    Calls Tryd.prog 51 #[.pointer (some ⟨p, 0, none⟩)] w fun e w' => e = .returned .nilIface ∧ Cache w' p B (padEG f width (l, k)) ∧ Below B w w' := by
  have H := Lib.hid h
  have HP := Lib.hid hp
  have HK := Lib.hid hk
  have HL := Lib.hid hl
  have c9 := h.p9
  by_cases h0 : k = 0
  · subst h0
    have E : padEG f width (l, 0) = l := rfl
    rw [E]
    obtain ⟨lr, hC⟩ := h.buf.cells
    have HC := Lib.hid hC
    clear h hp E hC
    have LL : Hid (([] : List UInt8).length + l.length ≤ 1000000) := by unfold Hid; simp; omega
    go_enter Tryd.func51, Tryd.ntmps51
    go_wp2_with (go_at_call 60
                 refine (rst_any p 6 0 0 none _ _ w HC.out rfl ⟨_, rfl⟩ ⟨_, rfl⟩ (Nat.le_refl _) (by unfold maxLen; omega)).mono ?_
                 rintro e w1 ⟨rfl, h1⟩
                 obtain ⟨lr1, g1, g2, g3, g4, g5, g6⟩ := fl_pre H.out h1
                 have G1 := Lib.hid g1
                 have G2 := Lib.hid g2
                 have G3 := Lib.hid g3
                 have G4 := Lib.hid g4
                 have G5 := Lib.hid g5
                 have G6 := Lib.hid g6
                 clear h1 g1 g2 g3 g4 g5 g6)
    have TW := Lib.hid (pd_two width pf q ((0 : Nat) : Int))
    have HCd : Hid (w1.drew.heap[p]? = some (.cells ((fun v lr cv cl => pdC width pf q cv cl ((0 : Nat) : Int) v lr) v lr1 (.slice none 0 0) 0) 71)) := ((Old.drew w1).heap (flt G1.out)).trans G1.out
    have OWd : Hid (w1.drew.ownsRow B 5 1 v l.length (byV l)) := fown_same G2.out (fun g _ => rfl)
    have BBd : Hid (BB w1.drew p 6 71 ((fun v lr cv cl => pdC width pf q cv cl ((0 : Nat) : Int) v lr) v lr1) B (.slice none 0 0) []) := G4.out.old (Old.drew w1)
    have BSd : Hid (B ≤ w1.drew.heap.size) := G5.out
    go_region_with (
      go_at_call 62
      refine (wto_any TW.out HCd.out OWd.out G3.out BBd.out BSd.out LL.out).mono ?_
      rintro e w3 ⟨rfl, v3, cv3, r1, r2, r3⟩
      have R1 := Lib.hid r1
      have R3 := Lib.hid (Fr.after_old (Old.drew w1) r3)
      obtain ⟨cl3, hC3⟩ := r1.cells
      have k9 := (fcell hC3 9).trans (rfl : _ = some (Value.int .i64 ((0 : Nat) : Int)))
      have j9 := ffree hC3 9
      have hC4 := fset (j := 9) hC3 (.int .i64 0)
      have k10 := (fcell hC4 10).trans (rfl : _ = some (Value.bool false))
      have j10 := ffree hC4 10
      clear r1 r2 r3 hC3 hC4)
    all_goals
      go_wp2_with fail
      go_ret
      exact ⟨rfl, fl_end H.out G6.out (List.nil_append _) R1.out R3.out⟩
  · have E : padEG f width (l, k) = l ++ f (width - k) := by unfold padEG; rw [if_neg h0]
    rw [E]
    have LL : Hid (([] : List UInt8).length + (l ++ f (width - k)).length ≤ 1000000) := by unfold Hid; simp; omega
    have hkn : ((k : Int) == 0) = false := by rw [beq_eq_false_iff_ne]; omega
    clear h hp E
    go_enter Tryd.func51, Tryd.ntmps51
    go_wp2_with (first
              | (go_at_call 50
                 refine (HP.out w v rb k l H.out HK.out HL.out).mono ?_
                 rintro e w0 ⟨rfl, v0, rb0, h0', m0⟩
                 have H0 := Lib.hid h0'
                 have M0 := Lib.hid m0
                 obtain ⟨lr0, hC0⟩ := h0'.buf.cells
                 have HC := Lib.hid hC0
                 clear h0' m0 hC0)
              | (go_at_call 60
                 refine (rst_any p 6 0 0 none _ _ w0 HC.out rfl ⟨_, rfl⟩ ⟨_, rfl⟩ (Nat.le_refl _) (by unfold maxLen; omega)).mono ?_
                 rintro e w1 ⟨rfl, h1⟩
                 obtain ⟨lr1, g1, g2, g3, g4, g5, g6⟩ := fl_pre H0.out h1
                 have G1 := Lib.hid g1
                 have G2 := Lib.hid g2
                 have G3 := Lib.hid g3
                 have G4 := Lib.hid g4
                 have G5 := Lib.hid g5
                 have G6 := Lib.hid g6
                 clear h1 g1 g2 g3 g4 g5 g6))
    have TW := Lib.hid (pd_two width pf q (k : Int))
    have HCd : Hid (w1.drew.heap[p]? = some (.cells ((fun v lr cv cl => pdC width pf q cv cl (k : Int) v lr) v0 lr1 (.slice none 0 0) 0) 71)) := ((Old.drew w1).heap (flt G1.out)).trans G1.out
    have OWd : Hid (w1.drew.ownsRow B 5 1 v0 (l ++ f (width - k)).length (byV (l ++ f (width - k)))) := fown_same G2.out (fun g _ => rfl)
    have BBd : Hid (BB w1.drew p 6 71 ((fun v lr cv cl => pdC width pf q cv cl (k : Int) v lr) v0 lr1) B (.slice none 0 0) []) := G4.out.old (Old.drew w1)
    have BSd : Hid (B ≤ w1.drew.heap.size) := G5.out
    go_region_with (
      go_at_call 62
      refine (wto_any TW.out HCd.out OWd.out G3.out BBd.out BSd.out LL.out).mono ?_
      rintro e w3 ⟨rfl, v3, cv3, r1, r2, r3⟩
      have R1 := Lib.hid r1
      have R3 := Lib.hid (Fr.after_old (Old.drew w1) r3)
      obtain ⟨cl3, hC3⟩ := r1.cells
      have k9 := (fcell hC3 9).trans (rfl : _ = some (Value.int .i64 (k : Int)))
      have j9 := ffree hC3 9
      have hC4 := fset (j := 9) hC3 (.int .i64 0)
      have k10 := (fcell hC4 10).trans (rfl : _ = some (Value.bool false))
      have j10 := ffree hC4 10
      clear r1 r2 r3 hC3 hC4)
    all_goals
      go_wp2_with fail
      go_ret
      have R := fl_end H0.out G6.out (List.nil_append _) R1.out R3.out
      exact ⟨rfl, R.1, (H.out.below M0.out).trans R.2⟩
end Go.Proofs.YtpkmamdgpjncoaaDoor
