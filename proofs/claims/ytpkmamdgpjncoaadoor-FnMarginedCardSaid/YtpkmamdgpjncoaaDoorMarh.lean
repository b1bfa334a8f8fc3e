/- margin.Writer: Write, Close, Bytes; margin.String, impl.Margined. -/
import Derived.Test.YtpkmamdgpjncoaaDoorMarg
namespace Go.Proofs.YtpkmamdgpjncoaaDoor
open Go.RowKit
set_option linter.unusedVariables false
set_option linter.unusedSimpArgs false
set_option linter.unnecessarySimpa false
set_option maxRecDepth 100000

theorem Old.below3 {w w' : World} {B : Nat} (o : Old w w') (h : B ≤ w.heap.size) : Below B w w' := Below.mono (B := w.heap.size) o h
theorem BB.m3 {w : World} {mp p1 p2 B : Nat} {v : Value} {l : List UInt8} (h : BB w mp 0 76 (mgC p1 p2) B v l) : w.cell? ⟨mp, 3, none⟩ = some (.pointer (some ⟨p1, 0, none⟩)) := by obtain ⟨lr, hc⟩ := h.cells; exact (fcell hc 3).trans rfl
theorem BB.m4 {w : World} {mp p1 p2 B : Nat} {v : Value} {l : List UInt8} (h : BB w mp 0 76 (mgC p1 p2) B v l) : w.cell? ⟨mp, 4, none⟩ = some (.pointer (some ⟨p2, 0, none⟩)) := by obtain ⟨lr, hc⟩ := h.cells; exact (fcell hc 4).trans rfl
/-- What a writer of margins takes. -/
def mgOk (width n : Nat) (d : List UInt8) : Prop := pln d ∧ n ≤ 1000 ∧ (∀ i, i ≤ d.length → (indR (blk n) (d.take i)).1.length + n + 10 ≤ 1000000) ∧ pln (indR (blk n) d).1 ∧ (indR (blk n) d).1.length ≤ 200000 ∧ width ≤ 1000 ∧ (∀ i, i ≤ (indR (blk n) d).1.length → (padR width ((indR (blk n) d).1.take i)).1.length + width + 10 ≤ 1000000) ∧ (padM width (indR (blk n) d).1).length ≤ 1000000
theorem MG.iw {w w1 : World} {B mp p1 q1 p2 q2 width n : Nat} {v2 rb2 : Value} (h : MG w B mp p1 q1 p2 q2 width n) (m : Mv w w1 q2 p2 (.slice none 0 0) (.slice none 0 0) v2 rb2) :
    AW w1 q1 p1 3 71 (pdC width .nilFunc q1 (.slice none 0 0) 0 0) B (.slice none 0 0) (.slice none 0 0) [] ∧ BB w1 mp 0 76 (mgC p1 p2) B (.slice none 0 0) [] ∧ Below B w w1 := by
  obtain ⟨a1, a2, a3, a4⟩ := h.d1
  obtain ⟨b1, b2, b3, b4⟩ := h.d2
  refine ⟨h.p.fr m.fr ?_ ?_ ?_ ?_, h.m.fr m.fr ?_ ?_, h.i.below m⟩
  · simp [Value.ownBlock]; omega
  · simp [Value.ownBlock]; omega
  · intro g hg; simp [Value.ownBlock] at hg
  · intro g hg; simp [Value.ownBlock] at hg
  · simp [Value.ownBlock]; omega
  · intro g hg; simp [Value.ownBlock] at hg
set_option maxHeartbeats 8000000 in
theorem mw_any {w : World} {B mp p1 q1 p2 q2 width n : Nat} (h : MG w B mp p1 q1 p2 q2 width n) (d : List UInt8) (nn : Nat) (hn : nn = d.length) (ao : Option Addr) (c : Nat) (hconv : (convert 49 9 (.slice ao nn c)).run Tryd.prog w = .ok (.string ⟨d.toArray⟩) w) (ok : mgOk width n d) :
    Calls Tryd.prog 34 #[.pointer (some ⟨mp, 0, none⟩), .slice ao nn c] w fun e w' => ∃ x, e = .returned (.tuple #[x, .nilIface]) ∧ ∃ v1 rb1, AW w' q1 p1 3 71 (pdC width .nilFunc q1 (.slice none 0 0) 0 (padR width (indR (blk n) d).1).2) B v1 rb1 (padR width (indR (blk n) d).1).1 ∧ v1.ownBlock ≠ some mp ∧ rb1.ownBlock ≠ some mp ∧ BB w' mp 0 76 (mgC p1 p2) B (.slice none 0 0) [] ∧ Below B w w' := by
  obtain ⟨ok1, ok2, ok3, ok4, ok5, ok6, ok7, ok8⟩ := ok
  have H := Lib.hid h
  have K1 := Lib.hid ok1
  have K3 := Lib.hid ok3
  have K4 := Lib.hid ok4
  have K7 := Lib.hid ok7
  have HV := Lib.hid hconv
  have HN := Lib.hid hn
  have c4 := h.m.m4
  clear h ok1 ok3 ok4 ok7 hconv hn
  generalize hM : (indR (blk n) d).1 = m1 at K4 K7 ok5 ok8 ⊢
  have HMM := Lib.hid hM
  clear hM
  go_enter Tryd.func34, Tryd.ntmps34
  go_wp2_with (go_at_call 53
               refine (iw_any H.out.i ok2 d nn HN.out ao c HV.out K1.out K3.out).mono ?_
               rintro e w1 ⟨rfl, v2, rb2, h2, m2⟩
               have I2 := Lib.hid h2
               obtain ⟨g1, g2, g3⟩ := H.out.iw m2
               have P1 := Lib.hid g1
               have M1 := Lib.hid g2
               have B1 := Lib.hid g3
               have j3 := g2.m3
               have j4 := g2.m4
               clear h2 m2 g1 g2 g3)
  have ID : Hid (BB w1.drew p2 3 87 (inC n .nilFunc q2 (indR (blk n) d).2) B v2 m1) := by rw [← HMM.out]; exact I2.out.buf.old (Old.drew w1)
  go_region_with (first
    | (go_at_call 54
       refine (iby_any ID.out).mono ?_
       rintro e w3 ⟨sv, rfl, o3, r3⟩
       obtain ⟨⟨ao3, c3, rfl⟩, hb3⟩ := r3
       have O3 := Lib.hid ((Old.drew w1).trans o3)
       have HB3 := Lib.hid (hb3 w3 (Old.refl _))
       have P3 := Lib.hid (P1.out.old ((Old.drew w1).trans o3))
       have M3 := Lib.hid (M1.out.old ((Old.drew w1).trans o3))
       have l3 := M3.out.m3
       have l4 := M3.out.m4
       clear o3 hb3)
    | (go_at_call 27
       refine (pwr_any blk P3.out (pad_by _ _ _ _ _ _ ok6) m1 _ rfl _ _ HB3.out K4.out ok5 K7.out (fun k => by rw [blk_len]; omega)).mono ?_
       rintro e w4 ⟨rfl, v4, rb4, h4, m4⟩
       have P4 := Lib.hid h4
       have Q4 := Lib.hid m4
       clear h4 m4))
  all_goals
    go_wp2
    go_ret2
    obtain ⟨b1, b2, b3, b4⟩ := H.out.d2
    refine ⟨_, rfl, v4, rb4, P4.out, Q4.out.v.ne M3.out.lt (by simp [Value.ownBlock]), Q4.out.r.ne M3.out.lt (by simp [Value.ownBlock]), M3.out.fr Q4.out.fr ?_ ?_, (B1.out.trans (Old.below3 O3.out P1.out.bsz)).trans (P3.out.below Q4.out)⟩
    · simp [Value.ownBlock]; omega
    · intro g hg; simp [Value.ownBlock] at hg
set_option maxHeartbeats 8000000 in
theorem mcl_any {w : World} {B mp p1 q1 p2 width k : Nat} {v1 rb1 : Value} {l : List UInt8} (h : AW w q1 p1 3 71 (pdC width .nilFunc q1 (.slice none 0 0) 0 k) B v1 rb1 l) (hv : v1.ownBlock ≠ some mp) (hr : rb1.ownBlock ≠ some mp) (hm : BB w mp 0 76 (mgC p1 p2) B (.slice none 0 0) []) (d1 : mp ≠ p1) (d2 : mp ≠ q1) (hb : B ≤ mp)
    (hk : k ≤ 1000000) (hw : width ≤ 1000) (hl : l.length + width ≤ 1000000) (hl2 : (padE width (l, k)).length ≤ 1000000) :
    Calls Tryd.prog 35 #[.pointer (some ⟨mp, 0, none⟩)] w fun e w' => e = .returned .nilIface ∧ ∃ v', BB w' mp 0 76 (mgC p1 p2) B v' (padE width (l, k)) ∧ Below B w w' := by
  have H := Lib.hid h
  have HM := Lib.hid hm
  have c3 := hm.m3
  have FM : Hid (∀ w', Fr [some p1, some q1, v1.ownBlock, rb1.ownBlock] w w' → BB w' mp 0 76 (mgC p1 p2) B (.slice none 0 0) []) := fun w' f => HM.out.fr f (by
    simp only [List.mem_cons, List.not_mem_nil, or_false, not_or]
    exact ⟨fun e => d1 (Option.some.inj e), fun e => d2 (Option.some.inj e), fun e => hv e.symm, fun e => hr e.symm⟩) (fun g hg => by simp [Value.ownBlock] at hg)
  generalize hE : padE width (l, k) = m at hl2 ⊢
  have HE := Lib.hid hE
  clear h hm hv hr hE
  go_enter Tryd.func35, Tryd.ntmps35
  go_wp2_with (go_at_call 28
               refine (clo_any blk H.out (pad_by _ _ _ _ _ _ hw) hk hl (by rw [blk_len]; omega)).mono ?_
               rintro e w1 ⟨rfl, h1, b1, f1⟩
               have C1 : Hid (Cache w1 p1 B m) := by rw [← HE.out]; exact h1
               have B1 := Lib.hid b1
               have M1 := Lib.hid (FM.out w1 f1)
               have j3 := (FM.out w1 f1).m3
               clear h1 b1 f1)
  have CD : Hid (Cache w1.drew p1 B m) := C1.out
  have BS : Hid (B ≤ w1.heap.size) := by have := M1.out.lt; unfold Hid; omega
  go_region_with (first
    | (go_at_call 56
       refine (bytsS_any CD.out).mono ?_
       rintro e w3 ⟨sv, rfl, o3, r3, s3⟩
       obtain ⟨⟨ao3, c3', rfl⟩, -⟩ := r3
       have O3 := Lib.hid ((Old.drew w1).trans o3)
       have S3 := Lib.hid s3
       have M3 := Lib.hid (M1.out.old ((Old.drew w1).trans o3))
       have l3 := M3.out.m3
       clear o3 s3)
    | (go_at_call 55
       refine (bw_src M3.out (by decide) ao3 c3' S3.out (by simpa using hl2) (Nat.le_trans BS.out O3.out.size)).mono ?_
       rintro e w4 ⟨rfl, v4, k1, k2, k3⟩
       have K1 := Lib.hid k1
       have K3 := Lib.hid k3
       clear k1 k2 k3))
  all_goals
    go_wp2
    go_ret
    refine ⟨rfl, v4, by simpa using K1.out, (B1.out.trans (Old.below3 O3.out BS.out)).trans ⟨K3.out.os, K3.out.tape, K3.out.output, K3.out.size, fun j hj => K3.out.block j (by have := M3.out.lt; omega) (by simp [Value.ownBlock]; omega)⟩⟩
theorem mby_any {w : World} {mp p1 p2 B : Nat} {v : Value} {m : List UInt8} (h : BB w mp 0 76 (mgC p1 p2) B v m) : Calls Tryd.prog 77 #[.pointer (some ⟨mp, 0, none⟩)] w fun e w' => ∃ sv, e = .returned sv ∧ Old w w' ∧ Reads w' sv m := by
  obtain ⟨lr, hC⟩ := h.cells
  have own := h.own
  go_enter Tryd.func77, Tryd.ntmps77
  go_wp2_with (go_at_call 61; refine (byt_any hC rfl rfl own).mono ?_; rintro e w1 ⟨sv, rfl, o1, r1⟩)
  go_ret
  exact ⟨sv, rfl, o1, r1⟩
/-- What a margin makes of a text. -/
def marM (width n : Nat) (d : List UInt8) : List UInt8 := padM width (indR (blk n) d).1
set_option maxHeartbeats 4000000 in
theorem mgb_any (width n : Nat) (d : List UInt8) (ao : Option Addr) (nn c : Nat) (w : World) (hn : nn = d.length) (hr : Reads w (.slice ao nn c) d) (ok : mgOk width n d) :
    Calls Tryd.prog 66 #[.slice ao nn c, .int .u64 width, .int .u64 n] w fun e w' => ∃ sv, e = .returned sv ∧ Old w w' ∧ Reads w' sv (marM width n d) := by
  have HR := Lib.hid hr
  have OK := Lib.hid ok
  have HN := Lib.hid hn
  have hk : (padR width (indR (blk n) d).1).2 ≤ 1000000 := by have := padR_k width (indR (blk n) d).1; have := ok.2.2.2.2.1; omega
  have hw := ok.2.2.2.2.2.1
  have hl : (padR width (indR (blk n) d).1).1.length + width ≤ 1000000 := by
    have := ok.2.2.2.2.2.2.1 _ (Nat.le_refl _)
    rw [List.take_length] at this
    omega
  have hl2 : Hid ((padE width ((padR width (indR (blk n) d).1).1, (padR width (indR (blk n) d).1).2)).length ≤ 1000000) := ok.2.2.2.2.2.2.2
  clear hr hn ok
  go_enter Tryd.func66, Tryd.ntmps66
  go_wp2_with (first
    | (go_at_call 33; refine (mnw_any width n w).mono ?_; rintro e w1 ⟨mp, p1, q1, p2, q2, rfl, h1, o1⟩; have H1 := Lib.hid h1; have O1 := Lib.hid o1; clear h1 o1)
    | (go_at_call 34
       refine (mw_any H1.out d nn HN.out ao c (HR.out.2 w1 O1.out) OK.out).mono ?_
       rintro e w2 ⟨x, rfl, v1, rb1, g1, g2, g3, g4, g5⟩
       have G1 := Lib.hid g1
       have G2 := Lib.hid g2
       have G3 := Lib.hid g3
       have G4 := Lib.hid g4
       have O2 : Hid (Old w w2) := O1.out.trans2 g5 (Below.refl _ _)
       clear g1 g2 g3 g4 g5)
    | (go_at_call 35
       refine (mcl_any G1.out G2.out G3.out G4.out H1.out.d2.1 H1.out.d2.2.1 H1.out.b hk hw hl hl2.out).mono ?_
       rintro e w3 ⟨rfl, v3, k1, k2⟩
       have K1 := Lib.hid k1
       have O3 : Hid (Old w w3) := O2.out.trans2 k2 (Below.refl _ _)
       clear k1 k2)
    | (go_at_call 77
       refine (mby_any K1.out).mono ?_
       rintro e w4 ⟨sv, rfl, o4, r4⟩
       have O4 := Lib.hid (O3.out.trans o4)
       have R4 := Lib.hid r4
       clear o4 r4))
  go_ret
  exact ⟨sv, rfl, O4.out, R4.out⟩
theorem mst_any (width n : Nat) (d : List UInt8) (w : World) (hd : d.length ≤ 100000) (ok : mgOk width n d) : Calls Tryd.prog 46 #[.string ⟨d.toArray⟩, .int .u64 width, .int .u64 n] w fun e w' => e = .returned (.string ⟨(marM width n d).toArray⟩) ∧ Old w w' := by
  have OK := Lib.hid ok
  obtain ⟨cc, w1, hcv, o1, hback⟩ := conv_text w d (by omega)
  have O1 := Lib.hid o1
  have RD : Hid (Reads w1 (.slice (some ⟨w.heap.size, 0, none⟩) d.length cc) d) := ⟨⟨_, _, rfl⟩, hback⟩
  clear o1 hback ok
  go_enter Tryd.func46, Tryd.ntmps46
  go_wp2_with (go_at_call 66
               refine (mgb_any width n d _ _ cc w1 rfl RD.out OK.out).mono ?_
               rintro e w2 ⟨sv, rfl, o2, r2⟩
               have hcv2 := r2.2 w2 (Old.refl _)
               have O2 := Lib.hid (O1.out.trans o2)
               clear o2 r2)
  go_ret
  exact ⟨rfl, O2.out⟩
theorem imr_any (width n : Nat) (d : List UInt8) (w : World) (hd : d.length ≤ 100000) (ok : mgOk width n d) : Calls Tryd.prog 22 #[.string ⟨d.toArray⟩, .int .u64 width, .int .u64 n] w fun e w' => e = .returned (.string ⟨(marM width n d).toArray⟩) ∧ Old w w' := by
  go_enter Tryd.func22, Tryd.ntmps22
  go_wp2_with (go_at_call 46; refine (mst_any width n d w hd ok).mono ?_; rintro e w1 ⟨rfl, o1⟩)
  go_ret
  exact ⟨rfl, o1⟩
end Go.Proofs.YtpkmamdgpjncoaaDoor
