/- truncate.Writer on a plain line: Write; truncate.StringWithTail, impl.Truncated. -/
import Derived.Test.YtpkmamdgpjncoaaDoorTrunc
namespace Go.Proofs.YtpkmamdgpjncoaaDoor
open Go.RowKit
set_option linter.unusedVariables false
set_option linter.unusedSimpArgs false
set_option linter.unnecessarySimpa false
set_option maxRecDepth 100000

set_option maxHeartbeats 4000000 in
theorem trl_any {w : World} {q p B width : Nat} {v rb : Value} {t : List UInt8} (h : AW w q p 3 108 (trC width ⟨t.toArray⟩ q) B v rb []) (ht : prS t) (hl : t.length ≤ 100000) (hw : t.length ≤ width) (hwd : width ≤ 1000) (d : List UInt8) (n : Nat) (hn : n = d.length) (ao : Option Addr) (c : Nat)
    (hconv : ∀ W, Below B w W → (convert 49 9 (.slice ao n c)).run Tryd.prog W = .ok (.string ⟨d.toArray⟩) W) (hd : prS d) (hdl : d.length ≤ 100000) :
    Calls Tryd.prog 75 #[.pointer (some ⟨p, 0, none⟩), .slice ao n c] w fun e w' => ∃ x v' wd, e = .returned (.tuple #[x, .nilIface]) ∧ BB w' p 3 108 (trC wd ⟨t.toArray⟩ q) B v' (trM width d t) ∧ Below B w w' := by
  obtain ⟨room, hroom⟩ : ∃ room, room = width - t.length := ⟨_, rfl⟩
  have H := Lib.hid h
  have HT := Lib.hid ht
  have HD := Lib.hid hd
  have HN := Lib.hid hn
  have HC := Lib.hid hconv
  have TM : Hid (trM width d t = if d.length ≤ room then d else d.take room ++ t) := by unfold Hid trM; rw [if_neg (by omega), ← hroom]
  have wt : IntKind.u64.wrap (t.length : Int) = t.length := by have := IntKind.wrap_u64 (t.length : Int); rw [this]; omega
  have d1 : decide ((width : Int) < (t.length : Int)) = false := by simp; omega
  have d1n : decide (width < t.length) = false := decide_eq_false (by omega)
  have ws : IntKind.u64.wrap ((width : Int) - (t.length : Int)) = (room : Nat) := by have := IntKind.wrap_u64 ((width : Int) - (t.length : Int)); rw [this]; omega
  have c1 := h.t1
  have hr1 : room ≤ 1000 := by omega
  clear h ht hd hn hconv hroom
  go_enter Tryd.func75, Tryd.ntmps75
  go_upto_region 5 with (go_at_call 87; refine (prw_any t w HT.out (by omega)).mono ?_; rintro e w1 ⟨rfl, o1⟩; have H1 := Lib.hid (H.out.old o1); have O1 := Lib.hid o1; have c0 := (H.out.old o1).t0; have f0 := (H.out.old o1).buf.free 0; clear o1)
  obtain ⟨h2, m2⟩ := H1.out.setW room
  have H2 := Lib.hid h2
  have B2 : Hid (Below B w (w1.setCell ⟨p, 0, none⟩ (.int .u64 room))) := (Old.below2 O1.out H.out.bsz).trans (H1.out.below m2)
  clear h2 m2 c0 f0
  generalize w1.setCell ⟨p, 0, none⟩ (.int .u64 room) = w2 at H2 B2 ⊢
  have hcv := HC.out w2 B2.out
  have HS : Hid ((⟨d.toArray⟩ : ByteArray).size = d.length) := by unfold Hid; simp [ByteArray.size]
  generalize hs : (⟨d.toArray⟩ : ByteArray) = s at hcv HS
  have HX := Lib.hid hs
  clear hs c1
  go_wp2_with fail
  obtain ⟨w3, hw3⟩ : ∃ w3, w3 = w2.iter s 0 := ⟨_, rfl⟩
  have IT0 : Hid (w3.heap[w2.heap.size]? = some (.stringIter s 0)) := by unfold Hid; rw [hw3]; exact World.iter_heap _ _ _
  have O3 : Hid (Old w2 w3) := by unfold Hid; rw [hw3]; exact Old.alloc _ _
  go_loopw [7] (fun cv wr => ∃ i v' rb', i ≤ d.length ∧ i ≤ room ∧ cv = .int .u64 i ∧ wr.heap[w2.heap.size]? = some (.stringIter s i) ∧ AW wr q p 3 108 (trC room ⟨t.toArray⟩ q) B v' rb' (d.take i) ∧ Mk w3 wr w2.heap.size q p v rb v' rb') (fun _ wr => d.length - wr.iterPos w2.heap.size)
  case atStart => exact ⟨0, v, rb, Nat.zero_le _, Nat.zero_le _, rfl, by rw [← hw3]; exact IT0.out, by rw [← hw3]; exact H2.out.old O3.out, by rw [← hw3]; exact Mk.refl _ _ _ _ _ _⟩
  case round =>
    obtain ⟨i, v1, rb1, hi, hir, rfl, hit, ha, hm⟩ := hrel
    have IT := Lib.hid hit
    have HA := Lib.hid ha
    have HM := Lib.hid hm
    clear ha hm hcv
    by_cases hlt : i < d.length
    · have hq2 : i < s.size := by rw [HS.out]; exact hlt
      have hg : s[i]'hq2 = d[i]'hlt := by
        have e := HX.out
        subst e
        rfl
      obtain ⟨b1, b2⟩ := HD.out _ (List.getElem_mem hlt)
      have hn := Lib.run_next_ascii_at (P := Tryd.prog) wr w2.heap.size s i 0 hit hq2 (by rw [hg]; omega)
      rw [hg] at hn
      have TK : Hid (d.take i ++ [d[i]] = d.take (i + 1)) := by unfold Hid; rw [List.take_succ_eq_append_getElem hlt]
      obtain ⟨a2, n1, n2, n3, n4⟩ := HA.out.iter hit (i + 1)
      have I2 : Hid ((wr.iterAt w2.heap.size s (i + 1)).heap[w2.heap.size]? = some (.stringIter s (i + 1))) := Lib.iterAt_heap _ _ _ _ _ hit
      obtain ⟨x, hx⟩ : ∃ x, x = d[i] := ⟨_, rfl⟩
      rw [← hx] at hn b1 b2 TK
      have e1 : ((x.toNat : Int) == 27) = false := by rw [beq_eq_false_iff_ne]; omega
      have N1 := Lib.hid n1
      have N2 := Lib.hid n2
      have N3 := Lib.hid n3
      have N4 := Lib.hid n4
      have A2 := Lib.hid a2
      have M2 : Hid (∀ w5 v2 rb2, Mv (wr.iterAt w2.heap.size s (i + 1)) w5 q p v1 rb1 v2 rb2 → Mk w3 w5 w2.heap.size q p v rb v2 rb2) := fun w5 v2 rb2 m => HM.out.step m
      have HE : Utf8.encode (x.toNat : Int) = ⟨[x].toArray⟩ := enc_asc x (by omega)
      have p1 : (32 : Int) ≤ x.toNat := by omega
      have p2 : (x.toNat : Int) ≤ 126 := by omega
      have NX : Hid (noseq [x]) := by intro c hc; rw [List.mem_singleton.1 hc]; exact ⟨by omega, by omega⟩
      have wo : IntKind.u64.wrap 1 = 1 := rfl
      have wsum : IntKind.u64.wrap ((i : Int) + 1) = (i : Int) + 1 := by have := IntKind.wrap_u64 ((i : Int) + 1); rw [this]; omega
      clear hg hq2 hit a2 n1 n2 n3 n4 hx b1 b2
      generalize hz : wr.iterAt w2.heap.size s (i + 1) = w4 at hn I2 A2 M2
      clear hz
      have k6 := A2.out.t6
      have k0 := A2.out.t0
      have k1 := A2.out.t1
      have k2 := A2.out.t2
      by_cases hgo : i < room
      · have d5 : decide (((i : Int) + 1) > (room : Int)) = false := decide_eq_false (by omega)
        have d5b : decide ((room : Int) < (i : Int) + 1) = false := decide_eq_false (by omega)
        obtain ⟨cc, w5, hcv, o5, hback⟩ := conv_text w4 [x] (by simp)
        have O5 := Lib.hid o5
        have BK : Hid ((convert 49 9 (.slice (some ⟨w4.heap.size, 0, none⟩) 1 cc)).run Tryd.prog w5 = .ok (.string ⟨[x].toArray⟩) w5) := hback _ (Old.refl _)
        have lx : Hid ((d.take i).length + 1 ≤ 1000000) := by unfold Hid; simp; omega
        clear o5 hback
        go_wp2_with (first
          | (go_at_call 49; refine (rwd_pr _ _ p1 p2).mono ?_; rintro e w6 ⟨rfl, rfl⟩)
          | (go_at_call 38
             with_reducible refine (aw_any (A2.out.old O5.out) [x] 1 rfl _ _ BK.out NX.out lx.out).mono ?_
             rintro e w6 ⟨rfl, v6, rb6, h6, m6⟩
             have H6 := Lib.hid h6
             have M6 := Lib.hid (Mv.old_left O5.out m6)
             clear h6 m6))
        have hk := (M6.out.keep (flt I2.out) N1.out N2.out N3.out N4.out).1.trans I2.out
        refine ⟨⟨i + 1, v6, rb6, hlt, hgo, by go_num, hk, by rw [← TK.out]; exact H6.out, M2.out _ _ _ M6.out⟩, ?_⟩
        rw [iterPos_at hk, iterPos_at IT.out]; omega
      · obtain rfl : i = room := by omega
        have d5 : decide (((i : Int) + 1) > (i : Int)) = true := decide_eq_true (by omega)
        have d5b : decide ((i : Int) < (i : Int) + 1) = true := decide_eq_true (by omega)
        have HDd : Hid (BB w4.drew p 3 108 (trC i ⟨t.toArray⟩ q) B v1 (d.take i)) := A2.out.buf.old (Old.drew w4)
        have BSd : Hid (B ≤ w4.drew.heap.size) := A2.out.bsz
        have ll : Hid ((d.take i).length + t.length ≤ 1000000) := by unfold Hid; simp; omega
        have TM2 : Hid (trM width d t = d.take i ++ t) := by unfold Hid; rw [TM.out, if_neg (by omega)]
        go_wp2_with (go_at_call 49; refine (rwd_pr _ _ p1 p2).mono ?_; rintro e w6 ⟨rfl, rfl⟩)
        go_region_with (
          go_at_call 88
          refine (wst_any HDd.out t ll.out BSd.out).mono ?_
          rintro e w6 ⟨rfl, v6, r1, r2, r3⟩
          have R1 := Lib.hid (wrote_drew A2.out r1 r2 r3)
          have k2 := (wrote_drew A2.out r1 r2 r3).1.t2
          clear r1 r2 r3)
        all_goals
          go_wp2_with (go_at_call 42; refine (lsq_any R1.out.1).mono ?_; rintro e w7 ⟨rfl, o7⟩; have O7 := Lib.hid o7; clear o7)
          go_ret2
          refine ⟨_, v6, i, rfl, ?_, ?_⟩
          · rw [TM2.out]
            exact R1.out.1.buf.old O7.out
          · exact (B2.out.trans (H2.out.below (Mk.done O3.out (Nat.le_refl _) (M2.out _ _ _ R1.out.2)))).trans (Old.below2 O7.out R1.out.1.bsz)
    · obtain rfl : i = d.length := by omega
      have hq2 : ¬ d.length < s.size := by rw [HS.out]; omega
      have hn := Lib.run_next_end_at (P := Tryd.prog) wr w2.heap.size s d.length 0 hit hq2
      have TM2 : Hid (trM width d t = d) := by unfold Hid; rw [TM.out, if_pos hir]
      clear hq2 hit
      go_wp2_with fail
      go_ret2
      have ha := HA.out
      rw [List.take_length] at ha
      refine ⟨_, v1, room, rfl, ?_, ?_⟩
      · rw [TM2.out]
        exact ha.buf
      · exact B2.out.trans (H2.out.below (Mk.done O3.out (Nat.le_refl _) HM.out))
end Go.Proofs.YtpkmamdgpjncoaaDoor
