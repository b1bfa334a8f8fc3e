/- goprompt's LastIndexNotAny (of ASCII signs); utf8.DecodeLastRuneInString of an ASCII text. -/
import Derived.Test.YtleamondilmojaaDoorNotAny
namespace Go.Proofs.YtleamondilmojaaDoor
open Go.RowKit
set_option linter.unusedVariables false
set_option linter.unusedSimpArgs false
set_option linter.unnecessarySimpa false
set_option maxRecDepth 100000

theorem dec_any (l : Bs) (q : Nat) (hq : q < l.length) (w : World) (ok : okT l) :
    Calls Tryd.prog 52 #[.string (tx (l.take (q + 1)))] w fun e w' => e = .returned (.tuple #[.int .i32 l[q].toNat, .int .i64 1]) ∧ w' = w := by
  have hn := ok.n
  have h128 : l[q].toNat < 128 := ok.a _ (List.getElem_mem hq)
  have hm : (l.take (q + 1)).length = q + 1 := by simp; omega
  have hs : (tx (l.take (q + 1))).size = q + 1 := by rw [tx_size, hm]
  have hq2 : q < (tx (l.take (q + 1))).size := by omega
  have hg : (tx (l.take (q + 1)))[q]'hq2 = l[q]'hq := (get_tx (by omega) hq2).trans List.getElem_take
  obtain ⟨b, hb⟩ : ∃ b, b = l[q]'hq := ⟨_, rfl⟩
  rw [← hb] at hg h128 ⊢
  have e0 : ((tx (l.take (q + 1)))[q]'hq2).toNat = b.toNat := by rw [hg]
  clear hb hg hm
  go_enter Tryd.func52, Tryd.ntmps52
  go_wp2_with fail
  go_ret2
  exact ⟨rfl, rfl⟩

set_option maxHeartbeats 2000000 in
theorem lna_any (l S : Bs) (w : World) (ok : okT l) (okS : okT S) (h0 : 0 < S.length) : Calls Tryd.prog 27 #[.string (tx l), .string (tx S)] w fun e w' => e = .returned (.int .i64 (lidx (setP S true) l)) ∧ Old w w' := by
  have OK := Lib.hid ok
  have OKS := Lib.hid okS
  have hn := ok.n
  have hnS := okS.n
  clear ok okS
  have HL : Hid ((tx l).size = l.length) := tx_size l
  have HS : Hid ((tx S).size = S.length) := tx_size S
  have hs0 := HS.out
  have hl0 := HL.out
  go_enter Tryd.func27, Tryd.ntmps27
  by_cases h8 : 8 < l.length
  · go_wp2
    go_step3
    go_wp2_with (first
      | (go_at_call 50; refine (mk_any S _ OKS.out).mono ?_; rintro e w1 ⟨rfl, o1⟩; have O1 := Lib.hid o1; clear o1)
      | (refine wpList_store_row rfl 70 _ _ rfl w1.heap.size (setC S) rfl rfl 70 _ (heap_alloc_new w1 _) (aset_info _) rfl (setC_one _) ?_; obtain ⟨w2, hw2, o2, c2⟩ := set_laid w1 S #[.int .u32 0, .int .u32 0, .int .u32 0, .int .u32 0, .int .u32 0, .int .u32 0, .int .u32 0, .int .u32 0]; rw [show World.setRow _ _ _ = w2 from hw2.symm]; have C2 := Lib.hid c2; have O2 := Lib.hid (O1.out.trans o2); clear c2 o2 hw2))
    go_loopg [7] l.length (fun g i wr => i = .int .i64 ((g : Int) - 1) ∧ g ≤ l.length ∧ wr = w2 ∧ Hid (∀ j (hj : j < l.length), g ≤ j → setP S true l[j] = false))
    case atStart => exact ⟨by go_num, Nat.le_refl _, rfl, fun j hj h => absurd hj (by omega)⟩
    case round =>
      obtain ⟨rfl, hk, rfl, AL⟩ := hrel
      by_cases hq0 : 0 < gk
      · obtain ⟨q, rfl⟩ : ∃ q, gk = q + 1 := ⟨gk - 1, by omega⟩
        have hq : q < l.length := by omega
        have hq2 : q < (tx l).size := by rw [HL.out]; exact hq
        have hg : (tx l)[q]'hq2 = l[q]'hq := get_tx hq hq2
        obtain ⟨b, hb⟩ : ∃ b, b = l[q]'hq := ⟨_, rfl⟩
        rw [← hb] at hg
        have HB := Lib.hid hb
        have e0 : ((tx l)[q]'hq2).toNat = b.toNat := by rw [hg]
        clear hb hg
        have e4 : (((q + 1 : Nat) : Int) - 1) = (q : Int) := by omega
        rw [e4]
        clear e4
        cases hp : setP S true b with
        | true =>
          have R : Hid (lidx (setP S true) l = q) := lidx_at hq (fun j hj h => AL.out j hj (by omega)) (by rw [← HB.out]; exact hp)
          have HP := Lib.hid hp
          clear hp
          go_wp2_with (go_at_call 51; refine (nc_any _ (ascA S) b _ C2.out (fun j => ascA_lt j _ S rfl)).mono ?_; rw [setP_true, HP.out]; rintro e w3 ⟨rfl, rfl⟩)
          try rw [Exit.noGoto_ret]
          go_ret
          exact ⟨ret_int R.out, O2.out⟩
        | false =>
          have HP := Lib.hid hp
          clear hp
          go_wp2_with (go_at_call 51; refine (nc_any _ (ascA S) b _ C2.out (fun j => ascA_lt j _ S rfl)).mono ?_; rw [setP_true, HP.out]; rintro e w3 ⟨rfl, rfl⟩)
          go_roundg q
          case measure => omega
          case rel =>
            refine ⟨by go_num, by omega, rfl, fun j hj h => ?_⟩
            by_cases e : j = q
            · subst e; rw [← HB.out]; exact HP.out
            · exact AL.out j hj (by omega)
      · obtain rfl : gk = 0 := by omega
        have R : Hid (lidx (setP S true) l = -1) := lidx_none fun j hj => AL.out j hj (by omega)
        go_wp2_with fail
        try rw [Exit.noGoto_ret]
        go_ret
        exact ⟨ret_int R.out, O2.out⟩
  · go_wp2
    go_step3
    go_wp2
    go_step3
    go_wp2
    go_loopg [8] l.length (fun g s8 wr => s8 = .int .i64 (g : Int) ∧ g ≤ l.length ∧ Hid (Old w wr) ∧ Hid (∀ j (hj : j < l.length), g ≤ j → setP S true l[j] = false))
    case atStart => exact ⟨by go_num, Nat.le_refl _, Old.refl _, fun j hj h => absurd hj (by omega)⟩
    case round =>
      obtain ⟨rfl, hk, OO, AL⟩ := hrel
      obtain ⟨G, hG⟩ : ∃ G, G = gk := ⟨_, rfl⟩
      obtain rfl : G = gk := hG
      by_cases hq0 : 0 < G
      · obtain ⟨q, rfl⟩ : ∃ q, G = q + 1 := ⟨G - 1, by omega⟩
        have hq : q < l.length := by omega
        have hx : (tx l).extract 0 (q + 1) = tx (l.take (q + 1)) := ext_pre
        have e4 : (((q + 1 : Nat) : Int) - 1) = (q : Int) := by omega
        obtain ⟨b, hb⟩ : ∃ b, b = l[q]'hq := ⟨_, rfl⟩
        have HB := Lib.hid hb
        clear hb
        go_wp2_with (go_at_call 52; refine (dec_any l q hq _ OK.out).mono ?_; rw [← HB.out]; rintro e w3 ⟨rfl, h3⟩; obtain rfl : wr = w3 := h3.symm)
        clear hx
        go_loopg [11] S.length (fun g _ wr2 => ∃ p : Nat, p + g = S.length ∧ p < S.length ∧ wr2 = wr.iter (tx S) p ∧ Hid (∀ j (hj : j < S.length), j < p → S[j] ≠ b))
        case atStart => exact ⟨0, by omega, h0, rfl, fun j hj h => absurd h (by omega)⟩
        case round =>
          obtain ⟨p, hpg, hpq, rfl, NO⟩ := hrel
          have hp2 : p < (tx S).size := by rw [HS.out]; exact hpq
          have hg2 : (tx S)[p]'hp2 = S[p]'hpq := get_tx hpq hp2
          have hn2 := run_next_ascii (P := Tryd.prog) wr (tx S) p 0 hp2 (by rw [hg2]; exact asc_get OKS.out hpq)
          rw [hg2] at hn2
          obtain ⟨d, hd⟩ : ∃ d, d = S[p]'hpq := ⟨_, rfl⟩
          rw [← hd] at hn2
          have HD := Lib.hid hd
          clear hg2 hp2 hd
          by_cases hc : b = d
          · have e1 : ((b.toNat : Int) == (d.toNat : Int)) = true := beq_same hc
            have e2 : ((b.toNat : Int) != (d.toNat : Int)) = false := by unfold bne; rw [e1]; rfl
            have PN : Hid (setP S true b = false) := setP_hit hpq (by rw [← HD.out]; exact hc.symm)
            clear hc
            go_wp2
            go_roundg q
            case measure => omega
            case rel =>
              refine ⟨by go_num, by omega, OO.out.then_alloc _, fun j hj h => ?_⟩
              by_cases e : j = q
              · subst e; rw [← HB.out]; exact PN.out
              · exact AL.out j hj (by omega)
          · have e1 : ((b.toNat : Int) == (d.toNat : Int)) = false := beq_diff hc
            have e2 : ((b.toNat : Int) != (d.toNat : Int)) = true := by unfold bne; rw [e1]; rfl
            have HC := Lib.hid hc
            clear hc
            by_cases hl : p + 1 = S.length
            · have R : Hid (lidx (setP S true) l = q) := by
                refine lidx_at hq (fun j hj h => AL.out j hj (by omega)) ?_
                rw [← HB.out]
                refine setP_last fun j hj => ?_
                by_cases e : j = p
                · subst e; rw [← HD.out]; exact fun h => HC.out h.symm
                · exact NO.out j hj (by omega)
              have e3 : ((p : Int) == (S.length : Int) - 1) = true := by rw [beq_iff_eq]; omega
              have HLL := Lib.hid hl
              clear hl
              go_wp2
              try rw [Exit.noGoto_ret]
              go_ret
              exact ⟨ret_int R.out, OO.out.then_alloc _⟩
            · have e3 : ((p : Int) == (S.length : Int) - 1) = false := by rw [beq_eq_false_iff_ne]; omega
              go_wp2
              go_roundg (gk - 1)
              case measure => omega
              case rel =>
                refine ⟨p + 1, by omega, by omega, rfl, fun j hj h => ?_⟩
                by_cases e : j = p
                · subst e; rw [← HD.out]; exact fun h => HC.out h.symm
                · exact NO.out j hj (by omega)
      · obtain rfl : G = 0 := by omega
        have R : Hid (lidx (setP S true) l = -1) := lidx_none fun j hj => AL.out j hj (by omega)
        go_wp2
        rw [Exit.noGoto_normal]
        go_wp2
        try rw [Exit.noGoto_ret]
        go_ret
        exact ⟨ret_int R.out, OO.out⟩
end Go.Proofs.YtleamondilmojaaDoor
