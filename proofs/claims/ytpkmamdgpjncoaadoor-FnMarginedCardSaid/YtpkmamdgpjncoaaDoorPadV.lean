/- padding.Writer: Write of a plain text. -/
import Derived.Test.YtpkmamdgpjncoaaDoorPadW
namespace Go.Proofs.YtpkmamdgpjncoaaDoor
open Go.RowKit
set_option linter.unusedVariables false
set_option linter.unusedSimpArgs false
set_option linter.unnecessarySimpa false
set_option maxRecDepth 100000

theorem rwd_nl (w : World) : Calls Tryd.prog 49 #[.int .i32 10] w fun e w' => e = .returned (.int .i64 0) ∧ w' = w := by
  go_enter Tryd.func49, Tryd.ntmps49
  go_wp2_with fail
  go_ret
  exact ⟨rfl, rfl⟩
theorem rwd_pr (c : Int) (w : World) (h1 : 32 ≤ c) (h2 : c ≤ 126) : Calls Tryd.prog 49 #[.int .i32 c] w fun e w' => e = .returned (.int .i64 1) ∧ w' = w := by
  have e1 : decide (c < 32) = false := by simp; omega
  have e2 : decide (c ≥ 127) = false := by simp; omega
  have e3 : (c == 173) = false := by simp; omega
  go_enter Tryd.func49, Tryd.ntmps49
  go_wp2_with fail
  go_ret
  exact ⟨rfl, rfl⟩
theorem enc_asc (c : UInt8) (h : c.toNat < 128) : Utf8.encode (c.toNat : Int) = ⟨[c].toArray⟩ := by
  unfold Utf8.encode
  have hv : Utf8.valid (c.toNat : Int) = true := by unfold Utf8.valid; simp; omega
  simp only [hv, if_true]
  rw [if_pos (by omega)]
  simp
/-- One sign, where n lacking signs are filled up by f n. -/
def padSG (f : Nat → List UInt8) (n : Nat) (s : List UInt8 × Nat) (c : UInt8) : List UInt8 × Nat := if c = 10 then (s.1 ++ f (n - s.2) ++ [10], 0) else (s.1 ++ [c], s.2 + 1)
def padRG (f : Nat → List UInt8) (n : Nat) (l : List UInt8) : List UInt8 × Nat := l.foldl (padSG f n) ([], 0)
theorem padRG_succ (f : Nat → List UInt8) (n : Nat) {l : List UInt8} {k : Nat} (h : k < l.length) : padRG f n (l.take (k + 1)) = padSG f n (padRG f n (l.take k)) l[k] := by
  unfold padRG
  rw [List.take_succ_eq_append_getElem h, List.foldl_append]
  rfl
theorem padRG_k (f : Nat → List UInt8) (n : Nat) (l : List UInt8) : (padRG f n l).2 ≤ l.length := by
  have h : ∀ (l : List UInt8) (s : List UInt8 × Nat), (l.foldl (padSG f n) s).2 ≤ s.2 + l.length := by
    intro l
    induction l with
    | nil => intro s; simp
    | cons c l ih =>
      intro s
      rw [List.foldl_cons]
      have := ih (padSG f n s c)
      have h2 : (padSG f n s c).2 ≤ s.2 + 1 := by unfold padSG; split <;> simp
      simp; omega
  have := h l ([], 0)
  simpa [padRG] using this
/-- What pad does where it fills up by f. -/
def PadBy (f : Nat → List UInt8) (pf : Value) (q p B width F : Nat) (cv : Value) (cl : Int) : Prop :=
  ∀ (W : World) (v rb : Value) (k : Nat) (l : List UInt8), AW W q p 3 71 (pdC width pf q cv cl k) B v rb l → k ≤ 1000000 → l.length + F ≤ 1000000 →
    Calls Tryd.prog 50 #[.pointer (some ⟨p, 0, none⟩)] W fun e w' => e = .returned .nilIface ∧ ∃ v' rb', AW w' q p 3 71 (pdC width pf q cv cl k) B v' rb' (l ++ f (width - k)) ∧ Mv W w' q p v rb v' rb'
set_option maxHeartbeats 4000000 in
theorem pwr_any {w : World} {q p B width F : Nat} {pf v rb cv : Value} {cl : Int} (f : Nat → List UInt8) (h : AW w q p 3 71 (pdC width pf q cv cl 0) B v rb []) (hp : PadBy f pf q p B width F cv cl) (d : List UInt8) (n : Nat) (hn : n = d.length) (ao : Option Addr) (c : Nat) (hconv : (convert 49 9 (.slice ao n c)).run Tryd.prog w = .ok (.string ⟨d.toArray⟩) w) (hd : pln d) (hn2 : n ≤ 200000)
    (hlim : ∀ i, i ≤ d.length → (padRG f width (d.take i)).1.length + F + 10 ≤ 1000000) (hF : ∀ k, (f (width - k)).length ≤ F) :
    Calls Tryd.prog 27 #[.pointer (some ⟨p, 0, none⟩), .slice ao n c] w fun e w' => e = .returned (.tuple #[.int .i64 n, .nilIface]) ∧ ∃ v' rb', AW w' q p 3 71 (pdC width pf q cv cl (padRG f width d).2) B v' rb' (padRG f width d).1 ∧ Mv w w' q p v rb v' rb' := by
  have H := Lib.hid h
  have HD := Lib.hid hd
  have HN := Lib.hid hn
  have HP := Lib.hid hp
  have HL := Lib.hid hlim
  have HF := Lib.hid hF
  have HS : Hid ((⟨d.toArray⟩ : ByteArray).size = d.length) := by unfold Hid; simp [ByteArray.size]
  clear h hd hn hp hlim hF
  generalize hs : (⟨d.toArray⟩ : ByteArray) = s at hconv HS
  have HX := Lib.hid hs
  clear hs
  go_enter Tryd.func27, Tryd.ntmps27
  go_wp2_with fail
  obtain ⟨w1, hw1⟩ : ∃ w1, w1 = w.iter s 0 := ⟨_, rfl⟩
  have IT0 : Hid (w1.heap[w.heap.size]? = some (.stringIter s 0)) := by unfold Hid; rw [hw1]; exact World.iter_heap _ _ _
  have O1 : Hid (Old w w1) := by unfold Hid; rw [hw1]; exact Old.alloc _ _
  go_loopw [7] (fun _ wr => ∃ i v' rb', i ≤ d.length ∧ wr.heap[w.heap.size]? = some (.stringIter s i) ∧ AW wr q p 3 71 (pdC width pf q cv cl (padRG f width (d.take i)).2) B v' rb' (padRG f width (d.take i)).1 ∧ Mk w1 wr w.heap.size q p v rb v' rb') (fun _ wr => d.length - wr.iterPos w.heap.size)
  case atStart => exact ⟨0, v, rb, Nat.zero_le _, by rw [← hw1]; exact IT0.out, by rw [← hw1]; exact H.out.old O1.out, by rw [← hw1]; exact Mk.refl _ _ _ _ _ _⟩
  case round =>
    obtain ⟨i, v1, rb1, hi, hit, ha, hm⟩ := hrel
    have IT := Lib.hid hit
    have HA := Lib.hid ha
    have HM := Lib.hid hm
    clear ha hm hconv
    by_cases hlt : i < d.length
    · have hq2 : i < s.size := by rw [HS.out]; exact hlt
      have hg : s[i]'hq2 = d[i]'hlt := by
        have e := HX.out
        subst e
        rfl
      have hpl := HD.out _ (List.getElem_mem hlt)
      have x1 : d[i].toNat < 128 := by
        rcases hpl with e | e
        · rw [e]; decide
        · omega
      have hn := Lib.run_next_ascii_at (P := Tryd.prog) wr w.heap.size s i 0 hit hq2 (by rw [hg]; exact x1)
      rw [hg] at hn
      have TK := Lib.hid (padRG_succ f width hlt)
      obtain ⟨a2, n1, n2, n3, n4⟩ := HA.out.iter hit (i + 1)
      have I2 : Hid ((wr.iterAt w.heap.size s (i + 1)).heap[w.heap.size]? = some (.stringIter s (i + 1))) := Lib.iterAt_heap _ _ _ _ _ hit
      have hl2 := Lib.hid (HL.out i hi)
      have hl3 := Lib.hid (HL.out (i + 1) hlt)
      have hkk := padRG_k f width (d.take i)
      have hk5 : (padRG f width (d.take i)).2 ≤ 200000 := by rw [List.length_take] at hkk; have := HN.out; omega
      obtain ⟨x, hx⟩ : ∃ x, x = d[i] := ⟨_, rfl⟩
      rw [← hx] at hn x1 TK hpl
      have N1 := Lib.hid n1
      have N2 := Lib.hid n2
      have N3 := Lib.hid n3
      have N4 := Lib.hid n4
      have A2 := Lib.hid a2
      have M2 : Hid (∀ w3 v2 rb2, Mv (wr.iterAt w.heap.size s (i + 1)) w3 q p v1 rb1 v2 rb2 → Mk w1 w3 w.heap.size q p v rb v2 rb2) := fun w3 v2 rb2 m => HM.out.step m
      have X1 := Lib.hid x1
      have HE : Utf8.encode (x.toNat : Int) = ⟨[x].toArray⟩ := enc_asc x x1
      clear hg hq2 hit a2 n1 n2 n3 n4 hx hkk
      generalize hz : wr.iterAt w.heap.size s (i + 1) = w2 at hn I2 A2 M2
      clear hz
      generalize hst : padRG f width (d.take i) = st at TK A2 hl2 hk5
      clear hst
      obtain ⟨out, k⟩ := st
      dsimp only at A2 hl2 hk5
      have e1 : ((x.toNat : Int) == 27) = false := by
        rw [beq_eq_false_iff_ne]
        rcases hpl with e | e
        · rw [e]; decide
        · omega
      have c9 := A2.out.p9
      have c10 := A2.out.p10
      have f9 := A2.out.buf.free 9
      rcases hpl with e | hpl
      · subst e
        have t : (((10 : UInt8).toNat : Nat) : Int) = 10 := rfl
        rw [t] at hn HE e1
        have hwk : IntKind.i64.wrap (k : Int) = k := by have := IntKind.wrap_i64 (k : Int); rw [this]; omega
        go_wp2_with fail
        go_region_with (go_at_call 49; refine (rwd_nl _).mono ?_; rintro e w3 ⟨rfl, rfl⟩)
        all_goals
          obtain ⟨h3, m3⟩ := A2.out.setLen (k : Int)
          have H3 := Lib.hid (h3.old (Old.drew _))
          have M3 := Lib.hid (m3.trans (Mv.of_old (Old.drew _) q p v1 rb1))
          clear h3 m3
          generalize (w2.setCell ⟨p, 9, none⟩ (.int .i64 (k : Int))).drew = w4 at H3 M3 ⊢
          have hk6 : Hid (k ≤ 1000000) := by unfold Hid; omega
          have hl6 : Hid (out.length + F ≤ 1000000) := by have := hl2.out; unfold Hid; omega
          have lx : Hid ((out ++ f (width - k)).length + 1 ≤ 1000000) := by have := hl2.out; have := HF.out k; unfold Hid; simp; omega
          have NX : Hid (noseq [10]) := by intro c hc; rw [List.mem_singleton.1 hc]; exact ⟨by decide, by decide⟩
          clear c9 c10 f9
          go_wp2_with (first
            | (go_at_call 50
               refine (HP.out w4 v1 rb1 k out H3.out hk6.out hl6.out).mono ?_
               rintro e w5 ⟨rfl, v5, rb5, h5, m5⟩
               have H5 := Lib.hid h5
               have M5 := Lib.hid (M3.out.trans m5)
               have c2 := h5.p2
               have c9 := h5.p9
               have f9 := h5.buf.free 9
               obtain ⟨h6, m6⟩ := h5.setLen 0
               have H6 := Lib.hid h6
               have M6 := Lib.hid (M5.out.trans m6)
               have d2 := h6.p2
               obtain ⟨cc, w7, hcv, o7, hback⟩ := conv_text (w5.setCell ⟨p, 9, none⟩ (.int .i64 0)) [10] (by simp)
               have O7 := Lib.hid o7
               have hz : (w5.setCell ⟨p, 9, none⟩ (.int .i64 0)).heap.size = w5.heap.size := by simp [World.setCell]
               have hb1 := hback _ (Old.refl _)
               rw [hz] at hcv hb1
               have BK : Hid ((convert 49 9 (.slice (some ⟨w5.heap.size, 0, none⟩) 1 cc)).run Tryd.prog w7 = .ok (.string ⟨[10].toArray⟩) w7) := hb1
               clear h5 m5 h6 m6 o7 hback hb1 hz)
            | (go_at_call 39; with_reducible refine (ra_any H5.out).mono ?_; rintro e w8 ⟨rfl, rfl⟩)
            | (go_at_call 38
               with_reducible refine (aw_any (H6.out.old O7.out) [10] 1 rfl _ _ BK.out NX.out lx.out).mono ?_
               rintro e w9 ⟨rfl, v9, rb9, h9, m9⟩
               have H9 := Lib.hid h9
               have M9 := Lib.hid (M6.out.trans (Mv.old_left O7.out m9))
               clear h9 m9))
          have hk := (M9.out.keep (flt I2.out) N1.out N2.out N3.out N4.out).1.trans I2.out
          have e6 : padSG f width (out, k) 10 = (out ++ f (width - k) ++ [10], 0) := by unfold padSG; rw [if_pos rfl]
          refine ⟨⟨i + 1, v9, rb9, hlt, hk, ?_, M2.out _ _ _ M9.out⟩, ?_⟩
          · rw [TK.out, e6]
            exact H9.out
          · rw [iterPos_at hk, iterPos_at IT.out]; omega
      · have e10 : ((x.toNat : Int) == 10) = false := by rw [beq_eq_false_iff_ne]; omega
        have hsum : IntKind.i64.wrap ((k : Int) + 1) = ((k + 1 : Nat) : Int) := by have := IntKind.wrap_i64 ((k : Int) + 1); rw [this]; omega
        have p1 : (32 : Int) ≤ x.toNat := by omega
        have p2 : (x.toNat : Int) ≤ 126 := by omega
        go_wp2_with fail
        go_region_with (go_at_call 49; refine (rwd_pr x.toNat _ p1 p2).mono ?_; rintro e w3 ⟨rfl, rfl⟩)
        all_goals
          obtain ⟨h3, m3⟩ := A2.out.setLen ((k : Int) + 1)
          have H3 := Lib.hid (h3.old (Old.drew _))
          have M3 := Lib.hid (m3.trans (Mv.of_old (Old.drew _) q p v1 rb1))
          clear h3 m3
          generalize (w2.setCell ⟨p, 9, none⟩ (.int .i64 ((k : Int) + 1))).drew = w4 at H3 M3 ⊢
          have c2 := H3.out.p2
          obtain ⟨cc, w5, hcv, o5, hback⟩ := conv_text w4 [x] (by simp)
          have O5 := Lib.hid o5
          have BK := Lib.hid hback
          have lx : Hid (out.length + [x].length ≤ 1000000) := by have := hl2.out; unfold Hid; simp; omega
          have NX : Hid (noseq [x]) := by intro c hc; rw [List.mem_singleton.1 hc]; exact ⟨X1.out, by omega⟩
          clear o5 hback c9 c10 f9
          go_wp2_with (go_at_call 38
                       refine (aw_any (H3.out.old O5.out) [x] _ rfl _ _ (BK.out _ (Old.refl _)) NX.out lx.out).mono ?_
                       rintro e w6 ⟨rfl, v6, rb6, h6, m6⟩
                       have H6 := Lib.hid h6
                       have M6 := Lib.hid (M3.out.trans (Mv.old_left O5.out m6))
                       clear h6 m6)
          have hk := (M6.out.keep (flt I2.out) N1.out N2.out N3.out N4.out).1.trans I2.out
          have e6 : padSG f width (out, k) x = (out ++ [x], k + 1) := by unfold padSG; rw [if_neg (by rintro rfl; simp at e10)]
          refine ⟨⟨i + 1, v6, rb6, hlt, hk, ?_, M2.out _ _ _ M6.out⟩, ?_⟩
          · rw [TK.out, e6]
            have := H6.out
            rwa [show ((k : Int) + 1) = ((k + 1 : Nat) : Int) by omega] at this
          · rw [iterPos_at hk, iterPos_at IT.out]; omega
    · obtain rfl : i = d.length := by omega
      have hq2 : ¬ d.length < s.size := by rw [HS.out]; omega
      have hn := Lib.run_next_end_at (P := Tryd.prog) wr w.heap.size s d.length 0 hit hq2
      clear hq2 hit
      go_wp2_with fail
      go_ret2
      have ha := HA.out
      rw [List.take_length] at ha
      exact ⟨rfl, v1, rb1, ha, Mk.done O1.out (Nat.le_refl _) HM.out⟩
end Go.Proofs.YtpkmamdgpjncoaaDoor
