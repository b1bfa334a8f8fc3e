/- goprompt.fuzzyMatch where it passes. -/
import Derived.Test.YtleamondilmojaaDoorFiltP
import Derived.Deep.Cut
namespace Go.Proofs.YtleamondilmojaaDoor
open Go.RowKit
set_option linter.unusedVariables false
set_option linter.unusedSimpArgs false
set_option linter.unnecessarySimpa false
set_option maxRecDepth 100000

/-- From sign q on the part lies, sign by sign, in the text from sign i on. -/
def subs (p s : Bs) (q i : Nat) : Prop := (p.drop q).Sublist (s.drop i)
theorem subs_hit {p s : Bs} {q i : Nat} (h : subs p s q i) (hq : q < p.length) (hi : i < s.length) (e : s[i] = p[q]) : subs p s (q + 1) (i + 1) := by
  unfold subs at h ⊢
  rw [List.drop_eq_getElem_cons hq, List.drop_eq_getElem_cons hi, e] at h
  exact List.cons_sublist_cons.1 h
theorem sub_ne {a b : UInt8} {l m : Bs} (e : a ≠ b) (h : (a :: l).Sublist (b :: m)) : (a :: l).Sublist m := by
  cases h with
  | cons _ h => exact h
  | cons_cons _ h => exact absurd rfl e
theorem subs_miss {p s : Bs} {q i : Nat} (h : subs p s q i) (hq : q < p.length) (hi : i < s.length) (e : s[i] ≠ p[q]) : subs p s q (i + 1) := by
  unfold subs at h ⊢
  rw [List.drop_eq_getElem_cons hq, List.drop_eq_getElem_cons hi] at h
  rw [List.drop_eq_getElem_cons hq]
  exact sub_ne (fun h => e h.symm) h
theorem subs_end {p s : Bs} {q i : Nat} (h : subs p s q i) (hq : q < p.length) : i < s.length := by
  have := h.length_le
  simp at this
  omega

set_option maxHeartbeats 1000000 in
theorem fuz_any (s p : Bs) (w : World) (h : p.Sublist s) (ok : okT s) (okp : okT p) : Calls Tryd.prog 57 #[.string (tx s), .string (tx p)] w fun e w' => e = .returned (.bool true) ∧ Old w w' := by
  have OK := Lib.hid ok
  have OKP := Lib.hid okp
  have hn := ok.n
  have hnp := okp.n
  have HS : Hid (subs p s 0 0) := by unfold Hid subs; simpa using h
  have HP : Hid ((tx p).size = p.length) := tx_size p
  have hl : (runes (tx s)).length = s.length := by rw [runes_tx ok]; simp
  have HL := Lib.hid hl
  have HG : Hid (∀ j (hj : j < s.length), gi (runes (tx s)) j = (s[j].toNat : Int)) := fun j hj => by
    rw [runes_tx ok, gi_lt (by simpa using hj)]; simp
  clear ok okp h hl
  go_enter Tryd.func57, Tryd.ntmps57
  go_upto_region 3 with (refine wpList_runes rfl 9 42 21 _ (tx s) rfl rfl (by kernel_rfl) (by kernel_rfl) (by kernel_rfl) (by rw [tx_size]; omega) ?_; intro v w1 o1 r1 hv1 own1; have O1 := Lib.hid o1; clear o1 hv1 own1; obtain ⟨b, o, c, rfl, hc, hm, hb, hcell⟩ := r1; have HB := Lib.hid hb; have CE := Lib.hid hcell; clear hcell hb; rw [HL.out] at hc ⊢)
  go_wp2
  go_loopw [6] (fun i wr => ∃ q j : Nat, q ≤ p.length ∧ j ≤ s.length ∧ i = .int .i64 j ∧ subs p s q j ∧ wr.heap[w1.heap.size]? = some (.stringIter (tx p) q) ∧ Old w1 wr) (fun _ wr => p.length - wr.iterPos w1.heap.size)
  case atStart => exact ⟨0, 0, Nat.zero_le _, Nat.zero_le _, rfl, HS.out, World.iter_heap _ _ _, Old.alloc _ _⟩
  case round =>
    obtain ⟨q, j, hq, hj, rfl, hsub, hit, hold⟩ := hrel
    have SU := Lib.hid hsub
    have IT := Lib.hid hit
    have OO := Lib.hid hold
    clear hsub hold
    by_cases hqp : q < p.length
    · have hq2 : q < (tx p).size := by rw [HP.out]; exact hqp
      have hg : (tx p)[q]'hq2 = p[q]'hqp := get_tx hqp hq2
      have hn := Lib.run_next_ascii_at (P := Tryd.prog) wr w1.heap.size (tx p) q 0 hit hq2 (by rw [hg]; exact asc_get OKP.out hqp)
      rw [hg] at hn
      obtain ⟨d, hd⟩ : ∃ d, d = p[q]'hqp := ⟨_, rfl⟩
      rw [← hd] at hn
      have HD := Lib.hid hd
      have I2 : Hid ((wr.iterAt w1.heap.size (tx p) (q + 1)).heap[w1.heap.size]? = some (.stringIter (tx p) (q + 1))) := Lib.iterAt_heap _ _ _ _ _ hit
      have O2 : Hid (Old w1 (wr.iterAt w1.heap.size (tx p) (q + 1))) := old_iterAt OO.out (Nat.le_refl _) _ _
      clear hg hq2 hd hit
      generalize hx : wr.iterAt w1.heap.size (tx p) (q + 1) = w2 at hn I2 O2
      clear hx
      go_wp2
      go_loopw [6, 9] (fun i f wz => ∃ k : Nat, k ≤ s.length ∧ i = .int .i64 k ∧ f = .bool false ∧ subs p s q k ∧ Old w2 wz) (fun i _ _ => s.length - (intOf i).toNat)
      case atStart => exact ⟨j, hj, rfl, rfl, SU.out, Old.refl _⟩
      case round =>
        obtain ⟨k, hk, rfl, rfl, hsk, hoz⟩ := hrel
        have hks := subs_end hsk hqp
        have SK := Lib.hid hsk
        have OZ := Lib.hid hoz
        have ck := (hoz.cell (Nat.lt_of_lt_of_le HB.out O2.out.size)).trans ((O2.out.cell HB.out).trans (CE.out k (by rw [HL.out]; exact hks)))
        rw [HG.out k hks] at ck
        clear hn hsk hoz
        obtain ⟨x, hx⟩ : ∃ x, x = s[k]'hks := ⟨_, rfl⟩
        rw [← hx] at ck
        have HX := Lib.hid hx
        clear hx
        by_cases hxd : x = d
        · have e1 : ((x.toNat : Int) == (d.toNat : Int)) = true := beq_same hxd
          have S2 : Hid (subs p s (q + 1) (k + 1)) := subs_hit SK.out hqp hks (by rw [← HX.out, ← HD.out, hxd])
          clear hxd
          go_wp2
          have hit3 := (OZ.out.heap (World.lt_of_heapZ I2.out)).trans I2.out
          refine ⟨⟨q + 1, k + 1, by omega, by omega, by go_num, S2.out, hit3, O2.out.trans OZ.out⟩, ?_⟩
          rw [iterPos_of hit3, iterPos_of IT.out]; omega
        · have e1 : ((x.toNat : Int) == (d.toNat : Int)) = false := beq_diff hxd
          have S2 : Hid (subs p s q (k + 1)) := subs_miss SK.out hqp hks (by rw [← HX.out, ← HD.out]; exact hxd)
          clear hxd
          go_wp2
          refine ⟨⟨k + 1, by omega, by go_num, rfl, S2.out, OZ.out⟩, ?_⟩
          simp [intOf]; omega
    · obtain rfl : q = p.length := by omega
      have hq2 : ¬ p.length < (tx p).size := by rw [HP.out]; omega
      have hn := Lib.run_next_end_at (P := Tryd.prog) wr w1.heap.size (tx p) p.length 0 hit hq2
      clear hq2 hit
      go_wp2
      go_ret
      exact ⟨rfl, O1.out.trans OO.out⟩
end Go.Proofs.YtleamondilmojaaDoor
