/- goprompt's IndexNotAny, LastIndexNotAny (of ASCII signs). -/
import Derived.Test.YtleamondilmojaaDoorAsciiMk
import Derived.Test.YtleamondilmojaaDoorZz
import Derived.WalkMore
import Derived.Deep.LoopGhost
namespace Go.Proofs.YtleamondilmojaaDoor
open Go.RowKit
set_option linter.unusedVariables false
set_option linter.unusedSimpArgs false
set_option linter.unnecessarySimpa false
set_option maxRecDepth 100000

/-- The set in a variable of the caller's own. -/
theorem set_laid (w : World) (S : Bs) (z : Array Value) : ∃ w', w' = (w.alloc (.cells z 70)).setRow w.heap.size (setC S) ∧ Old w w' ∧ ∀ j, j < 8 → w'.cell? ⟨w.heap.size, j, none⟩ = some (.int .u32 (ascA S j)) :=
  ⟨_, rfl, by rw [World.setRow_alloc_new]; exact Old.alloc _ _, fun j hj => by rw [cell_setRow_same _ _ _ _ _ _ _ (heap_alloc_new _ _)]; exact setC_at S j hj⟩
theorem setP_true {S : Bs} {c : UInt8} : (!(ascA S (c.toNat / 32)).testBit (c.toNat % 32)) = setP S true c := by
  rw [ascA_bit c _ S rfl]; unfold setP; cases hasb S c <;> rfl
theorem setP_last {S : Bs} {c : UInt8} (h : ∀ j (hj : j < S.length), S[j] ≠ c) : setP S true c = true := by
  unfold setP; rw [contains_none h]; rfl
theorem setP_hit {S : Bs} {c : UInt8} {k : Nat} (hk : k < S.length) (h : S[k] = c) : setP S true c = false := by
  unfold setP; rw [contains_at hk h]; rfl

set_option maxHeartbeats 2000000 in
theorem ina_any (l S : Bs) (w : World) (ok : okT l) (okS : okT S) (h0 : 0 < S.length) : Calls Tryd.prog 26 #[.string (tx l), .string (tx S)] w fun e w' => e = .returned (.int .i64 (fidx (setP S true) l)) ∧ Old w w' := by
  have OK := Lib.hid ok
  have OKS := Lib.hid okS
  have hn := ok.n
  have hnS := okS.n
  clear ok okS
  have HL : Hid ((tx l).size = l.length) := tx_size l
  have HS : Hid ((tx S).size = S.length) := tx_size S
  have hs0 := HS.out
  have hl0 := HL.out
  go_enter Tryd.func26, Tryd.ntmps26
  by_cases h8 : 8 < l.length
  · go_wp2
    go_step3
    go_wp2_with (first
      | (go_at_call 50; refine (mk_any S _ OKS.out).mono ?_; rintro e w1 ⟨rfl, o1⟩; have O1 := Lib.hid o1; clear o1)
      | (refine wpList_store_row rfl 70 _ _ rfl w1.heap.size (setC S) rfl rfl 70 _ (heap_alloc_new w1 _) (aset_info _) rfl (setC_one _) ?_; obtain ⟨w2, hw2, o2, c2⟩ := set_laid w1 S #[.int .u32 0, .int .u32 0, .int .u32 0, .int .u32 0, .int .u32 0, .int .u32 0, .int .u32 0, .int .u32 0]; rw [show World.setRow _ _ _ = w2 from hw2.symm]; have C2 := Lib.hid c2; have O2 := Lib.hid (O1.out.trans o2); clear c2 o2 hw2))
    go_loopg [7] l.length (fun g i wr => ∃ q : Nat, q + g = l.length ∧ i = .int .i64 q ∧ wr = w2 ∧ Hid (∀ j (hj : j < l.length), j < q → setP S true l[j] = false))
    case atStart => exact ⟨0, by omega, rfl, rfl, fun j hj h => absurd h (by omega)⟩
    case round =>
      obtain ⟨q, hk, rfl, rfl, AL⟩ := hrel
      by_cases hq : q < l.length
      · have hq2 : q < (tx l).size := by rw [HL.out]; exact hq
        have hg : (tx l)[q]'hq2 = l[q]'hq := get_tx hq hq2
        obtain ⟨b, hb⟩ : ∃ b, b = l[q]'hq := ⟨_, rfl⟩
        rw [← hb] at hg
        have HB := Lib.hid hb
        have e0 : ((tx l)[q]'hq2).toNat = b.toNat := by rw [hg]
        clear hb hg
        cases hp : setP S true b with
        | true =>
          have R : Hid (fidx (setP S true) l = q) := fidx_at hq (fun j hj h => AL.out j hj h) (by rw [← HB.out]; exact hp)
          have HP := Lib.hid hp
          clear hp
          go_wp2_with (go_at_call 51; refine (nc_any _ (ascA S) b _ C2.out (fun j => ascA_lt j _ S rfl)).mono ?_; rw [setP_true, HP.out]; rintro e w3 ⟨rfl, rfl⟩)
          try rw [Exit.noGoto_ret]
          go_ret
          exact ⟨ret_int R.out, O2.out⟩
        | false =>
          have HP := Lib.hid hp
          clear hp
          go_wp2_with (go_at_call 51; refine (nc_any _ (ascA S) b _ C2.out (fun j => ascA_lt j _ S rfl)).mono ?_; rw [setP_true, HP.out]; rintro e w3 ⟨rfl, rfl⟩)
          go_roundg (gk - 1)
          case measure => omega
          case rel =>
            refine ⟨q + 1, by omega, by go_num, rfl, fun j hj h => ?_⟩
            by_cases e : j = q
            · subst e; rw [← HB.out]; exact HP.out
            · exact AL.out j hj (by omega)
      · obtain rfl : q = l.length := by omega
        have R : Hid (fidx (setP S true) l = -1) := fidx_none fun j hj => AL.out j hj hj
        go_wp2_with fail
        try rw [Exit.noGoto_ret]
        go_ret
        exact ⟨ret_int R.out, O2.out⟩
  · go_wp2
    go_step3
    go_wp2
    go_step3
    go_wp2
    go_loopg [8] l.length (fun g s8 wr => ∃ q : Nat, q + g = l.length ∧ wr.heap[w.heap.size]? = some (.stringIter (tx l) q) ∧ Hid (Old w wr) ∧ Hid (∀ j (hj : j < l.length), j < q → setP S true l[j] = false))
    case atStart => exact ⟨0, by omega, World.iter_heap _ _ _, Old.alloc _ _, fun j hj h => absurd h (by omega)⟩
    case round =>
      obtain ⟨q, hk, hit, OO, AL⟩ := hrel
      obtain ⟨G, hG⟩ : ∃ G, G = gk := ⟨_, rfl⟩
      obtain rfl : G = gk := hG
      have IT := Lib.hid hit
      by_cases hq : q < l.length
      · have hq2 : q < (tx l).size := by rw [HL.out]; exact hq
        have hg : (tx l)[q]'hq2 = l[q]'hq := get_tx hq hq2
        have hn := Lib.run_next_ascii_at (P := Tryd.prog) wr w.heap.size (tx l) q 0 hit hq2 (by rw [hg]; exact asc_get OK.out hq)
        rw [hg] at hn
        obtain ⟨b, hb⟩ : ∃ b, b = l[q]'hq := ⟨_, rfl⟩
        rw [← hb] at hn
        have HB := Lib.hid hb
        have I2 : Hid ((wr.iterAt w.heap.size (tx l) (q + 1)).heap[w.heap.size]? = some (.stringIter (tx l) (q + 1))) := Lib.iterAt_heap _ _ _ _ _ hit
        have O2 : Hid (Old w (wr.iterAt w.heap.size (tx l) (q + 1))) := old_iterAt OO.out (Nat.le_refl _) _ _
        clear hg hq2 hb hit
        generalize hx : wr.iterAt w.heap.size (tx l) (q + 1) = w2 at hn I2 O2
        clear hx
        go_wp2
        clear hn
        go_loopg [10] S.length (fun g _ wr2 => ∃ p : Nat, p + g = S.length ∧ p < S.length ∧ wr2 = w2.iter (tx S) p ∧ Hid (∀ j (hj : j < S.length), j < p → S[j] ≠ b))
        case atStart => exact ⟨0, by omega, h0, rfl, fun j hj h => absurd h (by omega)⟩
        case round =>
          obtain ⟨p, hpg, hpq, rfl, NO⟩ := hrel
          have hp2 : p < (tx S).size := by rw [HS.out]; exact hpq
          have hg2 : (tx S)[p]'hp2 = S[p]'hpq := get_tx hpq hp2
          have hn2 := run_next_ascii (P := Tryd.prog) w2 (tx S) p 0 hp2 (by rw [hg2]; exact asc_get OKS.out hpq)
          rw [hg2] at hn2
          obtain ⟨d, hd⟩ : ∃ d, d = S[p]'hpq := ⟨_, rfl⟩
          rw [← hd] at hn2
          have HD := Lib.hid hd
          clear hg2 hp2 hd
          by_cases hc : b = d
          · have e1 : ((b.toNat : Int) == (d.toNat : Int)) = true := beq_same hc
            have e2 : ((b.toNat : Int) != (d.toNat : Int)) = false := by unfold bne; rw [e1]; rfl
            have PN : Hid (setP S true b = false) := setP_hit hpq (by rw [← HD.out]; exact hc.symm)
            have I3 : Hid ((w2.iter (tx S) (p + 1)).heap[w.heap.size]? = some (.stringIter (tx l) (q + 1))) := ((Old.alloc w2 _).heap (World.lt_of_heapZ I2.out)).trans I2.out
            clear hc
            go_wp2
            go_roundg (G - 1)
            case measure => omega
            case rel =>
              refine ⟨q + 1, by omega, I3.out, O2.out.then_alloc _, fun j hj h => ?_⟩
              by_cases e : j = q
              · subst e; rw [← HB.out]; exact PN.out
              · exact AL.out j hj (by omega)
          · have e1 : ((b.toNat : Int) == (d.toNat : Int)) = false := beq_diff hc
            have e2 : ((b.toNat : Int) != (d.toNat : Int)) = true := by unfold bne; rw [e1]; rfl
            have HC := Lib.hid hc
            clear hc
            by_cases hl : p + 1 = S.length
            · have R : Hid (fidx (setP S true) l = q) := by
                refine fidx_at hq (fun j hj h => AL.out j hj h) ?_
                rw [← HB.out]
                refine setP_last fun j hj => ?_
                by_cases e : j = p
                · subst e; rw [← HD.out]; exact fun h => HC.out h.symm
                · exact NO.out j hj (by omega)
              have e3 : ((p : Int) == (S.length : Int) - 1) = true := by rw [beq_iff_eq]; omega
              have HLL := Lib.hid hl
              clear hl
              go_wp2
              try rw [Exit.noGoto_ret]
              go_ret
              exact ⟨ret_int R.out, O2.out.then_alloc _⟩
            · have e3 : ((p : Int) == (S.length : Int) - 1) = false := by rw [beq_eq_false_iff_ne]; omega
              go_wp2
              go_roundg (gk - 1)
              case measure => omega
              case rel =>
                refine ⟨p + 1, by omega, by omega, rfl, fun j hj h => ?_⟩
                by_cases e : j = p
                · subst e; rw [← HD.out]; exact fun h => HC.out h.symm
                · exact NO.out j hj (by omega)
      · obtain rfl : q = l.length := by omega
        have hq2 : ¬ l.length < (tx l).size := by rw [HL.out]; omega
        have hn := Lib.run_next_end_at (P := Tryd.prog) wr w.heap.size (tx l) l.length 0 hit hq2
        have R : Hid (fidx (setP S true) l = -1) := fidx_none fun j hj => AL.out j hj hj
        clear hq2 hit
        go_wp2
        rw [Exit.noGoto_normal]
        go_wp2
        try rw [Exit.noGoto_ret]
        go_ret
        exact ⟨ret_int R.out, OO.out⟩
end Go.Proofs.YtleamondilmojaaDoor
