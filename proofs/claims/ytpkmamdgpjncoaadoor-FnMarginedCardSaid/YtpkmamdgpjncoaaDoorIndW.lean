/- indent.Writer without a function of its own: Write of a plain text, Bytes. -/
import Derived.Test.YtpkmamdgpjncoaaDoorIndA
import Derived.Test.YtpkmamdgpjncoaaDoorPadL
namespace Go.Proofs.YtpkmamdgpjncoaaDoor
open Go.RowKit
set_option linter.unusedVariables false
set_option linter.unusedSimpArgs false
set_option linter.unnecessarySimpa false
set_option maxRecDepth 100000

/-- One sign set in. -/
def indS (x : List UInt8) (s : List UInt8 × Bool) (c : UInt8) : List UInt8 × Bool := ((if s.2 then s.1 else s.1 ++ x) ++ [c], decide (c ≠ 10))
def indR (x l : List UInt8) : List UInt8 × Bool := l.foldl (indS x) ([], false)
theorem indR_succ (x : List UInt8) {l : List UInt8} {k : Nat} (h : k < l.length) : indR x (l.take (k + 1)) = indS x (indR x (l.take k)) l[k] := by
  unfold indR
  rw [List.take_succ_eq_append_getElem h, List.foldl_append]
  rfl
theorem indR_T (x : List UInt8) : ∀ (l : List UInt8) (s : List UInt8 × Bool), (l.foldl (indS x) s).1 = s.1 ++ indT x s.2 l
  | [], s => by simp [indT]
  | c :: l, s => by
    rw [List.foldl_cons, indR_T x l]
    obtain ⟨o, b⟩ := s
    cases b <;> simp [indS, indT]
theorem indR_all (x l : List UInt8) : (indR x l).1 = indT x false l := by
  unfold indR
  rw [indR_T]
  simp
theorem nofuncI (W : World) : (binOp .neq 85 .nilFunc .nilFunc).run Tryd.prog W = .ok (.bool false) W := by kernel_rfl
set_option maxHeartbeats 8000000 in
theorem iw_any {w : World} {q p B n : Nat} {v rb : Value} (h : AW w q p 3 87 (inC n .nilFunc q false) B v rb []) (hn1 : n ≤ 1000) (d : List UInt8) (m : Nat) (hm : m = d.length) (ao : Option Addr) (c : Nat) (hconv : (convert 49 9 (.slice ao m c)).run Tryd.prog w = .ok (.string ⟨d.toArray⟩) w) (hd : pln d)
    (hlim : ∀ i, i ≤ d.length → (indR (blk n) (d.take i)).1.length + n + 10 ≤ 1000000) :
    Calls Tryd.prog 53 #[.pointer (some ⟨p, 0, none⟩), .slice ao m c] w fun e w' => e = .returned (.tuple #[.int .i64 m, .nilIface]) ∧ ∃ v' rb', AW w' q p 3 87 (inC n .nilFunc q (indR (blk n) d).2) B v' rb' (indR (blk n) d).1 ∧ Mv w w' q p v rb v' rb' := by
  have H := Lib.hid h
  have HD := Lib.hid hd
  have HN := Lib.hid hm
  have HL := Lib.hid hlim
  have HS : Hid ((⟨d.toArray⟩ : ByteArray).size = d.length) := by unfold Hid; simp [ByteArray.size]
  clear h hd hm hlim
  generalize hs : (⟨d.toArray⟩ : ByteArray) = s at hconv HS
  have HX := Lib.hid hs
  clear hs
  go_enter Tryd.func53, Tryd.ntmps53
  go_wp2_with fail
  obtain ⟨w1, hw1⟩ : ∃ w1, w1 = w.iter s 0 := ⟨_, rfl⟩
  have IT0 : Hid (w1.heap[w.heap.size]? = some (.stringIter s 0)) := by unfold Hid; rw [hw1]; exact World.iter_heap _ _ _
  have O1 : Hid (Old w w1) := by unfold Hid; rw [hw1]; exact Old.alloc _ _
  go_loopw [7] (fun _ wr => ∃ i v' rb', i ≤ d.length ∧ wr.heap[w.heap.size]? = some (.stringIter s i) ∧ AW wr q p 3 87 (inC n .nilFunc q (indR (blk n) (d.take i)).2) B v' rb' (indR (blk n) (d.take i)).1 ∧ Mk w1 wr w.heap.size q p v rb v' rb') (fun _ wr => d.length - wr.iterPos w.heap.size)
  case atStart => exact ⟨0, v, rb, Nat.zero_le _, by rw [← hw1]; exact IT0.out, by rw [← hw1]; exact H.out.old O1.out, by rw [← hw1]; exact Mk.refl _ _ _ _ _ _⟩
  case round =>
    obtain ⟨i, v1, rb1, hi, hit, ha, hmk⟩ := hrel
    have IT := Lib.hid hit
    have HA := Lib.hid ha
    have HM := Lib.hid hmk
    clear ha hmk hconv
    by_cases hlt : i < d.length
    · have hq2 : i < s.size := by rw [HS.out]; exact hlt
      have hg : s[i]'hq2 = d[i]'hlt := by
        have e := HX.out
        subst e
        rfl
      have hpl := HD.out _ (List.getElem_mem hlt)
      have x1 : d[i].toNat < 128 := by
        rcases hpl with e | e
        · rw [e]; decide
        · omega
      have hn := Lib.run_next_ascii_at (P := Tryd.prog) wr w.heap.size s i 0 hit hq2 (by rw [hg]; exact x1)
      rw [hg] at hn
      have TK := Lib.hid (indR_succ (blk n) hlt)
      obtain ⟨a2, n1, n2, n3, n4⟩ := HA.out.iter hit (i + 1)
      have I2 : Hid ((wr.iterAt w.heap.size s (i + 1)).heap[w.heap.size]? = some (.stringIter s (i + 1))) := Lib.iterAt_heap _ _ _ _ _ hit
      have hl2 := Lib.hid (HL.out i hi)
      obtain ⟨x, hx⟩ : ∃ x, x = d[i] := ⟨_, rfl⟩
      rw [← hx] at hn x1 TK hpl
      have N1 := Lib.hid n1
      have N2 := Lib.hid n2
      have N3 := Lib.hid n3
      have N4 := Lib.hid n4
      have A2 := Lib.hid a2
      have M2 : Hid (∀ w3 v2 rb2, Mv (wr.iterAt w.heap.size s (i + 1)) w3 q p v1 rb1 v2 rb2 → Mk w1 w3 w.heap.size q p v rb v2 rb2) := fun w3 v2 rb2 m => HM.out.step m
      have HE : Utf8.encode (x.toNat : Int) = ⟨[x].toArray⟩ := enc_asc x x1
      have X1 := Lib.hid x1
      clear hg hq2 hit a2 n1 n2 n3 n4 hx x1
      generalize hz : wr.iterAt w.heap.size s (i + 1) = w2 at hn I2 A2 M2
      clear hz
      generalize hst : indR (blk n) (d.take i) = st at TK A2 hl2
      clear hst
      obtain ⟨out, sk⟩ := st
      dsimp only at A2 hl2
      have NX : Hid (noseq [x]) := by
        intro c hc
        rw [List.mem_singleton.1 hc]
        rcases hpl with e | e
        · rw [e]; exact ⟨by decide, by decide⟩
        · exact ⟨by omega, by omega⟩
      have e1 : ((x.toNat : Int) == 27) = false := by
        rw [beq_eq_false_iff_ne]
        rcases hpl with e | e
        · rw [e]; decide
        · omega
      have E1 := Lib.hid e1
      -- the text with what is set in ahead of it
      have FIN : Hid (∀ w9 v9 rb9, AW w9 q p 3 87 (inC n .nilFunc q (decide (x ≠ 10))) B v9 rb9 ((if sk then out else out ++ blk n) ++ [x]) → Mv w2 w9 q p v1 rb1 v9 rb9 →
          (∃ i v' rb', i ≤ d.length ∧ w9.heap[w.heap.size]? = some (.stringIter s i) ∧ AW w9 q p 3 87 (inC n .nilFunc q (indR (blk n) (d.take i)).2) B v' rb' (indR (blk n) (d.take i)).1 ∧ Mk w1 w9 w.heap.size q p v rb v' rb') ∧ d.length - w9.iterPos w.heap.size < d.length - wr.iterPos w.heap.size) := by
        intro w9 v9 rb9 h9 m9
        have hk := (m9.keep (flt I2.out) N1.out N2.out N3.out N4.out).1.trans I2.out
        refine ⟨⟨i + 1, v9, rb9, hlt, hk, ?_, M2.out _ _ _ m9⟩, ?_⟩
        · rw [TK.out]; exact h9
        · rw [iterPos_at hk, iterPos_at IT.out]; omega
      have i1 := A2.out.i1
      have i2 := A2.out.i2
      have i6 := A2.out.i6
      have i7 := A2.out.i7
      clear hpl
      by_cases h10 : x = 10
      · subst h10
        have t : (((10 : UInt8).toNat : Nat) : Int) = 10 := rfl
        rw [t] at hn HE e1
        cases sk
        · skip
          have lb : Hid (out.length + (blk n).length ≤ 1000000) := by have := hl2.out; unfold Hid; rw [blk_len]; omega
          have lx : Hid ((out ++ blk n).length + 1 ≤ 1000000) := by have := hl2.out; unfold Hid; simp [blk_len]; omega
          have hnf := fun W => nofuncI W
          have wn : IntKind.i64.wrap (n : Int) = n := by have := IntKind.wrap_i64 (n : Int); rw [this]; omega
          go_wp2_with (go_at_call 39; refine (ra_any A2.out).mono ?_; rintro e w3 ⟨rfl, rfl⟩)
          have AD : Hid (AW w3.drew q p 3 87 (inC n .nilFunc q false) B v1 rb1 out) := A2.out.old (Old.drew w3)
          have k0 := A2.out.i0
          go_region_with
            (first
              | (go_at_call 67
                 refine (rep_any n w3.drew (by omega)).mono ?_
                 rintro e w4 ⟨rfl, o4⟩
                 have O4 := Lib.hid ((Old.drew w3).trans o4)
                 have a0 := (O4.out.cell (o := 0) A2.out.buf.lt).trans k0
                 have a2 := (O4.out.cell (o := 2) A2.out.buf.lt).trans i2
                 obtain ⟨cc, w5, hcv0, o5, hback⟩ := conv_text w4 (blk n) (by rw [blk_len]; omega)
                 have hcv : (convert 9 49 (.string (tx (List.replicate n 32)))).run Tryd.prog w4 = .ok (.slice (some ⟨w4.heap.size, 0, none⟩) (blk n).length cc) w5 := hcv0
                 have O5 := Lib.hid (O4.out.trans o5)
                 have b0 := (O5.out.cell (o := 0) A2.out.buf.lt).trans k0
                 have b2 := (O5.out.cell (o := 2) A2.out.buf.lt).trans i2
                 have BK := Lib.hid hback
                 clear o4 o5 hback hcv0)
              | (go_at_call 38
                 refine (aw_any (A2.out.old O5.out) (blk n) _ rfl _ _ (BK.out _ (Old.refl _)) (noseq_blk n) lb.out).mono ?_
                 rintro e w6 ⟨rfl, v6, rb6, h6, m6⟩
                 have M6 := Lib.hid (Mv.old_left O5.out m6)
                 have c6 := h6.i6
                 have g6 := h6.buf.free 6
                 have H7 := Lib.hid (h6.setS true).1
                 have M7 := Lib.hid (M6.out.trans (h6.setS true).2)
                 have d2 := (h6.setS true).1.i2
                 clear h6 m6))
          all_goals
            go_wp2_with (first
              | (go_at_call 40
                 refine (ro_any H7.out).mono ?_
                 rintro e w8 ⟨rfl, h8, m8⟩
                 have q6 := h8.i6
                 have r6 := h8.buf.free 6
                 have H9 := Lib.hid (h8.setS false).1
                 have M9 := Lib.hid ((M7.out.trans m8).trans (h8.setS false).2)
                 have q2 := (h8.setS false).1.i2
                 obtain ⟨cd, w9, hcv9, o9, hbk9⟩ := conv_text (w8.setCell ⟨p, 6, none⟩ (.bool false)) [10] (by simp)
                 have hz9 : (w8.setCell ⟨p, 6, none⟩ (.bool false)).heap.size = w8.heap.size := by simp [World.setCell]
                 have hb9 := hbk9 _ (Old.refl _)
                 rw [hz9] at hcv9 hb9
                 have O9 := Lib.hid o9
                 have BK9 : Hid ((convert 49 9 (.slice (some ⟨w8.heap.size, 0, none⟩) 1 cd)).run Tryd.prog w9 = .ok (.string ⟨[10].toArray⟩) w9) := hb9
                 clear hz9 hb9
                 clear h8 m8 o9 hbk9)
              | (go_at_call 38
                 with_reducible refine (aw_any (H9.out.old O9.out) [10] 1 rfl _ _ BK9.out NX.out lx.out).mono ?_
                 rintro e w10 ⟨rfl, v10, rb10, h10', m10⟩
                 have H10 := Lib.hid h10'
                 have M10 := Lib.hid (M9.out.trans (Mv.old_left O9.out m10))
                 clear h10' m10))
            exact FIN.out _ _ _ H10.out M10.out
        · skip
          obtain ⟨h3, m3⟩ := A2.out.setS false
          have H3 := Lib.hid h3
          have M3 := Lib.hid m3
          have f6 := A2.out.buf.free 6
          have q2 := h3.i2
          obtain ⟨cc, w5, hcv, o5, hback⟩ := conv_text (w2.setCell ⟨p, 6, none⟩ (.bool false)) [10] (by simp)
          have hz9 : (w2.setCell ⟨p, 6, none⟩ (.bool false)).heap.size = w2.heap.size := by simp [World.setCell]
          have hb9 := hback _ (Old.refl _)
          rw [hz9] at hcv hb9
          have O5 := Lib.hid o5
          have BK : Hid ((convert 49 9 (.slice (some ⟨w2.heap.size, 0, none⟩) 1 cc)).run Tryd.prog w5 = .ok (.string ⟨[10].toArray⟩) w5) := hb9
          have lx : Hid (out.length + 1 ≤ 1000000) := by have := hl2.out; unfold Hid; omega
          clear o5 hback hz9 hb9 h3 m3
          go_wp2_with (go_at_call 38
                       with_reducible refine (aw_any (H3.out.old O5.out) [10] 1 rfl _ _ BK.out NX.out lx.out).mono ?_
                       rintro e w6 ⟨rfl, v6, rb6, h6, m6⟩
                       have H6 := Lib.hid h6
                       have M6 := Lib.hid (M3.out.trans (Mv.old_left O5.out m6))
                       clear h6 m6)
          exact FIN.out _ _ _ H6.out M6.out
      · have e10 : ((x.toNat : Int) == 10) = false := by rw [tenB, decide_eq_false h10]
        cases sk
        · skip
          have lb : Hid (out.length + (blk n).length ≤ 1000000) := by have := hl2.out; unfold Hid; rw [blk_len]; omega
          have lx : Hid ((out ++ blk n).length + 1 ≤ 1000000) := by have := hl2.out; unfold Hid; simp [blk_len]; omega
          have hnf := fun W => nofuncI W
          have wn : IntKind.i64.wrap (n : Int) = n := by have := IntKind.wrap_i64 (n : Int); rw [this]; omega
          go_wp2_with (go_at_call 39; refine (ra_any A2.out).mono ?_; rintro e w3 ⟨rfl, rfl⟩)
          have AD : Hid (AW w3.drew q p 3 87 (inC n .nilFunc q false) B v1 rb1 out) := A2.out.old (Old.drew w3)
          have k0 := A2.out.i0
          go_region_with
            (first
              | (go_at_call 67
                 refine (rep_any n w3.drew (by omega)).mono ?_
                 rintro e w4 ⟨rfl, o4⟩
                 have O4 := Lib.hid ((Old.drew w3).trans o4)
                 have a0 := (O4.out.cell (o := 0) A2.out.buf.lt).trans k0
                 have a2 := (O4.out.cell (o := 2) A2.out.buf.lt).trans i2
                 obtain ⟨cc, w5, hcv0, o5, hback⟩ := conv_text w4 (blk n) (by rw [blk_len]; omega)
                 have hcv : (convert 9 49 (.string (tx (List.replicate n 32)))).run Tryd.prog w4 = .ok (.slice (some ⟨w4.heap.size, 0, none⟩) (blk n).length cc) w5 := hcv0
                 have O5 := Lib.hid (O4.out.trans o5)
                 have b0 := (O5.out.cell (o := 0) A2.out.buf.lt).trans k0
                 have b2 := (O5.out.cell (o := 2) A2.out.buf.lt).trans i2
                 have BK := Lib.hid hback
                 clear o4 o5 hback hcv0)
              | (go_at_call 38
                 refine (aw_any (A2.out.old O5.out) (blk n) _ rfl _ _ (BK.out _ (Old.refl _)) (noseq_blk n) lb.out).mono ?_
                 rintro e w6 ⟨rfl, v6, rb6, h6, m6⟩
                 have M6 := Lib.hid (Mv.old_left O5.out m6)
                 have c6 := h6.i6
                 have g6 := h6.buf.free 6
                 have H7 := Lib.hid (h6.setS true).1
                 have M7 := Lib.hid (M6.out.trans (h6.setS true).2)
                 have d2 := (h6.setS true).1.i2
                 clear h6 m6))
          all_goals
            go_wp2_with (first
              | (go_at_call 40
                 refine (ro_any H7.out).mono ?_
                 rintro e w8 ⟨rfl, h8, m8⟩
                 have H9 : Hid (AW w8 q p 3 87 (inC n .nilFunc q (decide (x ≠ 10))) B v6 rb6 (out ++ blk n)) := by rw [show decide (x ≠ 10) = true by simp [h10]]; exact h8
                 have M9 := Lib.hid (M7.out.trans m8)
                 have q2 := h8.i2
                 obtain ⟨cd, w9, hcv9, o9, hbk9⟩ := conv_text w8 [x] (by simp)
                 have O9 := Lib.hid o9
                 have BK9 : Hid ((convert 49 9 (.slice (some ⟨w8.heap.size, 0, none⟩) 1 cd)).run Tryd.prog w9 = .ok (.string ⟨[x].toArray⟩) w9) := hbk9 _ (Old.refl _)
                 clear h8 m8 o9 hbk9)
              | (go_at_call 38
                 with_reducible refine (aw_any (H9.out.old O9.out) [x] 1 rfl _ _ BK9.out NX.out lx.out).mono ?_
                 rintro e w10 ⟨rfl, v10, rb10, h10', m10⟩
                 have H10 := Lib.hid h10'
                 have M10 := Lib.hid (M9.out.trans (Mv.old_left O9.out m10))
                 clear h10' m10))
            exact FIN.out _ _ _ H10.out M10.out
        · obtain ⟨cc, w5, hcv, o5, hback⟩ := conv_text w2 [x] (by simp)
          have O5 := Lib.hid o5
          have BK : Hid ((convert 49 9 (.slice (some ⟨w2.heap.size, 0, none⟩) 1 cc)).run Tryd.prog w5 = .ok (.string ⟨[x].toArray⟩) w5) := hback _ (Old.refl _)
          have lx : Hid (out.length + 1 ≤ 1000000) := by have := hl2.out; unfold Hid; omega
          clear o5 hback
          go_wp2_with (go_at_call 38
                       refine (aw_any (A2.out.old O5.out) [x] 1 rfl _ _ BK.out NX.out lx.out).mono ?_
                       rintro e w6 ⟨rfl, v6, rb6, h6, m6⟩
                       have H6 := Lib.hid h6
                       have M6 := Lib.hid (Mv.old_left O5.out m6)
                       clear h6 m6)
          have h6 := H6.out
          rw [show true = decide (x ≠ 10) by simp [h10]] at h6
          exact FIN.out _ _ _ h6 M6.out
    · obtain rfl : i = d.length := by omega
      have hq2 : ¬ d.length < s.size := by rw [HS.out]; omega
      have hn := Lib.run_next_end_at (P := Tryd.prog) wr w.heap.size s d.length 0 hit hq2
      clear hq2 hit
      go_wp2_with fail
      go_ret2
      have ha := HA.out
      rw [List.take_length] at ha
      exact ⟨rfl, v1, rb1, ha, Mk.done O1.out (Nat.le_refl _) HM.out⟩
end Go.Proofs.YtpkmamdgpjncoaaDoor
