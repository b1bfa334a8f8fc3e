/- The reference's columns: spec.Columned of printable texts. -/
import Derived.Test.YtalkikljjffpmaaFms
import Derived.IntWalk
namespace Go.Proofs.Ytalkikljjffpmaa
open Go.RowKit
set_option linter.unusedVariables false
set_option linter.unusedSimpArgs false
set_option linter.unnecessarySimpa false
set_option maxRecDepth 100000

/-- v is a slice of texts that reads T. -/
def SB (w : World) (v : Value) (T : List Bs) : Prop :=
  ∃ ad c, v = .slice ad T.length c ∧ T.length ≤ c ∧ c ≤ maxLen ∧ ∀ j (h : j < T.length), ∃ b o, ad = some ⟨b, o, none⟩ ∧ b < w.heap.size ∧ w.cell? ⟨b, o + j, none⟩ = some (.string (tx T[j]))
theorem SB.old {w w' : World} {v : Value} {T : List Bs} (h : SB w v T) (o : Old w w') : SB w' v T := by
  obtain ⟨ad, c, h0, h1, h2, h3⟩ := h
  refine ⟨ad, c, h0, h1, h2, fun j hj => ?_⟩
  obtain ⟨b, q, e, hb, c1⟩ := h3 j hj
  exact ⟨b, q, e, Nat.lt_of_lt_of_le hb o.size, (o.cell hb).trans c1⟩
theorem SB.at_ {w : World} {ad : Option Addr} {n c : Nat} {T : List Bs} (h : SB w (.slice ad n c) T) {j : Nat} (hj : j < T.length) : ∃ b o, ad = some ⟨b, o, none⟩ ∧ b < w.heap.size ∧ w.cell? ⟨b, o + j, none⟩ = some (.string (tx T[j])) := by
  obtain ⟨ad', c', e0, -, -, h3⟩ := h
  injection e0 with e1 e2 e3
  subst e1
  exact h3 j hj
theorem SB.of_own {w : World} {base : Nat} {e : TypeId} {v : Value} {T : List Bs} {n : Nat} (h : w.ownsRow base e 1 v n (lineVs T)) : SB w v T := by
  have hl : T.length = n := by have := h.1; simpa [lineVs] using this
  subst hl
  rcases h.2 with ⟨rfl, h0⟩ | ⟨g, cap, cur, rfl, h1, h2, h3, h4, _⟩
  · exact ⟨none, 0, by rw [h0], by omega, by unfold maxLen; omega, fun j hj => absurd hj (by omega)⟩
  · refine ⟨_, cap, rfl, h3, h4, fun j hj => ⟨g, 0, rfl, (Array.getElem?_eq_some_iff.1 h2).1, ?_⟩⟩
    rw [Nat.zero_add, own_cell h j hj, gv_lt (by rw [lineVs_len]; exact hj)]; simp [lineVs]
theorem mixS_at {T : List Bs} {k : Nat} (h : k < T.length) (hk : k < (mixS T k).length) : (mixS T k)[k] = [] := by
  have hl : (T.take k).length = k := by simp; omega
  have : (mixS T k)[k]? = some [] := by
    unfold mixS
    rw [List.getElem?_append_right (by omega), hl, Nat.sub_self, List.getElem?_replicate]
    simp; omega
  rw [List.getElem?_eq_getElem hk] at this
  exact Option.some.inj this
theorem mixS_nil {T : List Bs} {k : Nat} (h : k < T.length) : (mixS T k).set k [] = mixS T k := by
  have hk : k < (mixS T k).length := by rw [mixS_len]; exact h
  have := List.set_getElem_self hk
  rw [mixS_at h hk] at this; exact this
theorem RowS.cellset {w : World} {b : Nat} {T : List Bs} {k : Nat} {x : Bs} (h : RowS w b (T.set k x)) (hk : k < T.length) : w.cell? ⟨b, k, none⟩ = some (.string (tx x)) := by
  have := h.cell (j := k) (by simpa using hk)
  rw [this]; simp
theorem RowS.setset {w : World} {b : Nat} {T : List Bs} {k : Nat} {x : Bs} (h : RowS w b (T.set k x)) (y : Bs) : RowS (w.setCell ⟨b, k, none⟩ (.string (tx y))) b (T.set k y) := by
  have := h.set k y
  rwa [List.set_set] at this
theorem tx_step {x : Bs} {q : Nat} (h : q < x.length) : tx (x.take q) ++ (tx x).extract q (q + 1) = tx (x.take (q + 1)) := by
  rw [one_at h, tx_append, List.take_succ_eq_append_getElem h]
set_option maxHeartbeats 4000000 in
theorem col_any (v : Value) (T : List Bs) (m : Int) (w : World) (hr : SB w v T) (hp : ∀ l ∈ T, prT l) (hw : ∀ l ∈ T, l.length ≤ 100) (hn : T.length ≤ 1000) (hm1 : -1000 ≤ m) (hm2 : m ≤ 1000) :
    Calls Try.prog 10 #[v, .int .i64 m, .string ⟨#[32]⟩, .string ⟨#[32]⟩] w fun e w' => ∃ g, e = .returned (.tuple #[.slice (some ⟨g, 0, none⟩) T.length T.length, .int .i64 (colN T m)]) ∧ Old w w' ∧ w.heap.size ≤ g ∧ RowS w' g (colT T m) := by
  have HR := Lib.hid hr
  have HP := Lib.hid hp
  have HW := Lib.hid hw
  obtain ⟨ad, c, rfl, h1, h2, -⟩ := hr
  clear hp hw
  unfold maxLen at h2
  go_enter Try.func10, Try.ntmps10
  go_wp2_with (first
    | (at_make; have _t := tok1; refine wpList_make_rows rfl _ _ rfl _ _ _ _ T.length rfl rfl rfl rfl (by omega) ?_; intro w2 r2 o2 s2; have R2 := Lib.hid r2; have O2 := Lib.hid (O1.out.trans o2); have V2 := Lib.hid o2; have S2 := Lib.hid s2; clear r2 o2 s2 tok1)
    | (at_make; refine wpList_make_rows rfl _ _ rfl _ _ _ _ T.length rfl rfl rfl rfl (by omega) ?_; intro w1 r1 o1 s1; have R1 := Lib.hid r1; have O1 := Lib.hid o1; have S1 := Lib.hid s1; clear r1 o1 s1; have tok1 : True := trivial))
  obtain ⟨g, hg⟩ : ∃ g, g = w.heap.size := ⟨_, rfl⟩
  obtain ⟨g2, hg2⟩ : ∃ g, g = w1.heap.size := ⟨_, rfl⟩
  rw [← hg] at R1 S1 ⊢
  rw [← hg2] at R2 S2 ⊢
  have HG := Lib.hid hg
  have h12 : g ≠ g2 := by have := R1.out.lt; omega
  have hgg : w.heap.size ≤ g2 := by have := O1.out.size; omega
  clear hg hg2
  have Q1 := Lib.hid (R1.out.old V2.out)
  go_loopw [12, 13] (fun wv iv wr => ∃ k : Nat, k ≤ T.length ∧ iv = .int .i64 k ∧ wv = .int .i64 (wid (T.take k)) ∧ RowS wr g2 (mixS T k) ∧ RowS wr g (List.replicate T.length []) ∧ Old w wr) (fun _ iv _ => T.length - (intOf iv).toNat)
  case atStart => exact ⟨0, Nat.zero_le _, rfl, rfl, by rw [mixS_zero]; exact R2.out, Q1.out, O2.out⟩
  case round =>
    obtain ⟨k, hk, rfl, rfl, hp2, hrg, hold⟩ := hrel
    have PP := Lib.hid hp2
    have RG := Lib.hid hrg
    have OO := Lib.hid hold
    clear hp2 hrg hold
    have hwk : wid (T.take k) ≤ 100 := wid_le fun l hl => HW.out l (List.mem_of_mem_take hl)
    by_cases hkn : k < T.length
    · obtain ⟨b, o, rfl, hb, c1⟩ := HR.out.at_ hkn
      have pk := HP.out _ (List.getElem_mem hkn)
      have hlk := HW.out _ (List.getElem_mem hkn)
      have WT := Lib.hid (wid_take hkn)
      have MX := Lib.hid (mixS_set hkn)
      obtain ⟨x, hx⟩ : ∃ x, x = T[k] := ⟨_, rfl⟩
      rw [← hx] at c1 hlk WT pk MX
      have HX := Lib.hid hx
      have PK := Lib.hid pk
      have HB := Lib.hid hb
      have C1 := Lib.hid c1
      have KM : Hid (k < (mixS T k).length) := by unfold Hid; rw [mixS_len]; exact hkn
      clear hx pk c1 hb
      go_wp2_with fail
      obtain ⟨wo, rfl⟩ : ∃ wo : World, wo = wr := ⟨_, rfl⟩
      go_loopw [14] (fun qv wr => ∃ q : Nat, q ≤ x.length ∧ qv = .int .i64 q ∧ RowS wr g2 ((mixS T k).set k (x.take q)) ∧ RowS wr g (List.replicate T.length []) ∧ Old w wr) (fun qv _ => x.length - (intOf qv).toNat)
      case atStart => exact ⟨0, Nat.zero_le _, rfl, by rw [List.take_zero, mixS_nil hkn]; exact PP.out, RG.out, OO.out⟩
      case round =>
        obtain ⟨q, hq, rfl, hp2, hrg, hold⟩ := hrel
        have PP := Lib.hid hp2
        have RG := Lib.hid hrg
        have OO := Lib.hid hold
        clear hp2 hrg hold
        have c1 := (OO.out.cell (o := o + k) HB.out).trans C1.out
        have f2 := PP.out.free k
        by_cases hqx : q < x.length
        · have hg := get_tx hqx (by rw [tx_size]; exact hqx)
          have pq := PK.out.get hqx
          have hn1 : ((((tx x)[q]'(by rw [tx_size]; omega)).toNat : Int) != 10) = true := by rw [hg]; simp; omega
          have hn2 : ((((tx x)[q]'(by rw [tx_size]; omega)).toNat : Int) != 13) = true := by rw [hg]; simp; omega
          have d2 := PP.out.cellset KM.out
          have TS := Lib.hid (tx_step hqx)
          have s1 : ¬ 9223372036854775807 < (tx (x.take q)).size + (min (q + 1) (tx x).size - q) := by
            rw [tx_size, tx_size]; simp; omega
          clear hg pq
          go_wp2_with fail
          have j0 : (0 : Int) ≤ (q : Int) + 1 := by omega
          have j1 : (q : Int) ≤ (q : Int) + 1 := by omega
          have j2 : (q : Int) + 1 ≤ ((tx x).size : Int) := by rw [tx_size]; omega
          have j3 : ((q : Int) + 1).toNat = q + 1 := by omega
          have j4 : IntKind.i64.wrap ((q : Int) + 1) = (q : Int) + 1 := IntWalk.i64_in _ (by omega)
          go_still_tail 14, (by kernel_rfl)
          clear j3 j4
          go_wp2_with fail
          rw [TS.out]
          have hst := PP.out.setset (x.take (q + 1))
          refine ⟨⟨q + 1, by omega, by go_num, hst.old (Old.drew _), (RG.out.far _ _ h12).old (Old.drew _), (OO.out.stored hgg _).then_drew⟩, ?_⟩
          simp [intOf]; omega
        · obtain rfl : q = x.length := by omega
          rw [List.take_length] at PP
          have d2 := PP.out.cellset KM.out
          rw [MX.out] at PP
          have WK : Hid ((max (wid (T.take k) : Int) (x.length : Int)) = (wid (T.take (k + 1)) : Int)) := by unfold Hid; rw [WT.out]; omega
          go_wp2_with fail
          go_roundw
          case rel => exact ⟨k + 1, by omega, by go_num, by rw [tx_size, WK.out], PP.out, RG.out, OO.out⟩
          case measure => simp [intOf]; omega
    · obtain rfl : k = T.length := by omega
      have ht : T.take T.length = T := List.take_length
      rw [ht] at hwk ⊢
      rw [mixS_all] at PP
      clear ht
      by_cases hz : wid T = 0
      · have hc1 : noCol T m = true := by unfold noCol; simp [hz]
        have hc2 : colN T m = 0 := by unfold colN; rw [hc1]; rfl
        have hc3 : colT T m = List.replicate T.length [] := by unfold colT; rw [hc1]; rfl
        have HC := Lib.hid (And.intro hc2 hc3)
        rw [hz]
        clear hc1 hc2 hc3
        go_wp2_with fail
        go_ret2
        exact ⟨g, by rw [HC.out.1]; rfl, OO.out, by rw [HG.out]; omega, by rw [HC.out.2]; exact RG.out⟩
      · have dz : ((wid T : Int) == 0) = false := by simp; exact hz
        by_cases h5 : m ≤ 5
        · have hc1 : noCol T m = true := by unfold noCol; simp [h5]
          have hc2 : colN T m = 0 := by unfold colN; rw [hc1]; rfl
          have hc3 : colT T m = List.replicate T.length [] := by unfold colT; rw [hc1]; rfl
          have d5 : decide ((5 : Int) ≥ m) = true := by simp; omega
          have HC := Lib.hid (And.intro hc2 hc3)
          clear hc1 hc2 hc3
          go_wp2_with fail
          go_ret2
          exact ⟨g, by rw [HC.out.1]; rfl, OO.out, by rw [HG.out]; omega, by rw [HC.out.2]; exact RG.out⟩
        · have hc1 : noCol T m = false := by unfold noCol; simp [hz, h5]
          have d5 : decide ((5 : Int) ≥ m) = false := by simp; omega
          obtain ⟨W, hW⟩ : ∃ W, W = colW T m := ⟨_, rfl⟩
          have hc2 : colN T m = (W : Int) + 2 := by unfold colN; rw [hc1, hW]; rfl
          have hc3 : colT T m = T.map (celP W) := by unfold colT; rw [hc1, hW]; rfl
          have HC := Lib.hid (And.intro hc2 hc3)
          unfold colW at hW
          clear hc1 hc2 hc3
          have hw3 : wid T ≤ W ∨ 3 ≤ W := by omega
          have hW1 : W ≤ 1000 := by omega
          have HWM : Hid (min (wid T : Int) (m - 1 - 1) = (W : Int)) := by unfold Hid; omega
          clear hW
          go_upto_region 16 with fail
          rw [HWM.out]
          go_wp2_with fail
          go_loopw [15] (fun iv wr2 => ∃ k : Nat, k ≤ T.length ∧ iv = .int .i64 k ∧ RowS wr2 g2 T ∧ RowS wr2 g (mixT W T k) ∧ Old w wr2) (fun iv _ => T.length - (intOf iv).toNat)
          case atStart => exact ⟨0, Nat.zero_le _, rfl, PP.out, by rw [mixT_zero]; exact RG.out, OO.out⟩
          case round =>
            obtain ⟨k, hk, rfl, hb, hrg, hold⟩ := hrel
            have BB := Lib.hid hb
            have RG := Lib.hid hrg
            have OO := Lib.hid hold
            clear hold hrg
            by_cases hkn : k < T.length
            · have c0 := hb.cell hkn
              have pk := HP.out _ (List.getElem_mem hkn)
              have hlk := HW.out _ (List.getElem_mem hkn)
              have hwk := le_wid (List.getElem_mem hkn)
              have MX := Lib.hid (mixT_set W hkn)
              obtain ⟨x, hx⟩ : ∃ x, x = T[k] := ⟨_, rfl⟩
              rw [← hx] at c0 hlk hwk MX pk
              have PK := Lib.hid pk
              clear hx hb pk
              have sx : (tx x).size = x.length := tx_size x
              by_cases hxw : x.length ≤ W
              · have dl : decide (W < x.length) = false := by simp; omega
                have CE : Hid (celP W x = 32 :: (x ++ List.replicate (W - x.length) 32) ++ [32]) := by unfold Hid celP celT; rw [if_pos hxw]
                go_wp2_with fail
                obtain ⟨y, hy⟩ : ∃ y, y = x := ⟨_, rfl⟩
                have hyW : y.length ≤ W := by rw [hy]; exact hxw
                rw [← hy] at CE
                have HY := Lib.hid hy
                clear hy
                go_loop [16] (fun sv => ∃ q : Nat, q ≤ W - y.length ∧ sv = .string (tx (y ++ List.replicate q 32))) (fun sv => W - szOf sv)
                case atStart => exact ⟨0, by omega, by rw [HY.out]; simp⟩
                case round =>
                  obtain ⟨q, hq, rfl⟩ := hrel
                  obtain ⟨t, ht⟩ : ∃ t, t = tx (y ++ List.replicate q 32) := ⟨_, rfl⟩
                  obtain ⟨n, hn'⟩ : ∃ n, n = y.length + q := ⟨_, rfl⟩
                  have st : t.size = n := by rw [ht, tx_size, hn']; simp
                  have E1 : Hid (t ++ ⟨#[32]⟩ = tx (y ++ List.replicate (q + 1) 32)) := by
                    unfold Hid
                    rw [ht, List.replicate_succ', ← List.append_assoc, ← tx_append]; rfl
                  have HT := Lib.hid ht
                  have HN := Lib.hid hn'
                  have hnW : n ≤ W := by omega
                  rw [← ht]
                  clear ht
                  by_cases hqs : q < W - y.length
                  · have dl2 : decide (n < W) = true := by simp; omega
                    have hlt : n < W := by omega
                    have s2 : ¬ 9223372036854775807 < n + (⟨#[32]⟩ : ByteArray).size := by
                      have : (⟨#[32]⟩ : ByteArray).size = 1 := rfl
                      rw [this]; omega
                    have s3 : ¬ 9223372036854775807 < n + 1 := by omega
                    clear hn'
                    go_wp2_with fail
                    go_round
                    case rel => exact ⟨q + 1, by omega, by rw [E1.out]⟩
                    case measure =>
                      have h1 : (⟨#[32]⟩ : ByteArray).size = 1 := rfl
                      simp [szOf, st, ByteArray.size_append, h1]; omega
                  · obtain rfl : q = W - y.length := by omega
                    have dl2 : decide (n < W) = false := by simp; omega
                    have hnl : ¬ n < W := by omega
                    have s2 : ¬ 9223372036854775807 < (⟨#[32]⟩ : ByteArray).size + n := by
                      have : (⟨#[32]⟩ : ByteArray).size = 1 := rfl
                      rw [this]; omega
                    have s3 : ¬ 9223372036854775807 < (⟨#[32]⟩ ++ t).size + (⟨#[32]⟩ : ByteArray).size := by
                      rw [ByteArray.size_append, st]; have : (⟨#[32]⟩ : ByteArray).size = 1 := rfl
                      omega
                    have E2 : Hid (⟨#[32]⟩ ++ t ++ ⟨#[32]⟩ = tx (celP W x)) := by
                      unfold Hid
                      rw [HT.out, ← HY.out, CE.out]
                      show tx [32] ++ tx _ ++ tx [32] = _
                      rw [tx_append, tx_append]; rfl
                    have f8 := RG.out.free k
                    have d8 := RG.out.cell (j := k) (by rw [mixT_len]; exact hkn)
                    clear hn'
                    go_wp2_with fail
                    rw [E2.out]
                    have hst := RG.out.set k (celP W x)
                    rw [MX.out] at hst
                    refine ⟨⟨k + 1, by omega, by go_num, BB.out.far _ _ (Ne.symm h12), hst, OO.out.stored (by rw [← HG.out]; exact Nat.le_refl _) _⟩, ?_⟩
                    simp [intOf]; omega
              · have h3 : 3 ≤ W := by omega
                have dl : decide (W < x.length) = true := by simp; omega
                go_wp2_with fail
                have hyx : (tx x).extract 0 (W - 3) ++ ⟨#[46, 46, 46]⟩ = tx (x.take (W - 3) ++ [46, 46, 46]) := by
                  rw [← tx_append, extract_eq, Nat.sub_zero, List.drop_zero, show bs (tx x) = x from rfl]; rfl
                rw [hyx]
                obtain ⟨y, hy⟩ : ∃ y, y = x.take (W - 3) ++ [46, 46, 46] := ⟨_, rfl⟩
                have hyl : y.length = W := by rw [hy]; simp; omega
                have hyW : y.length ≤ W := by omega
                have CE : Hid (celP W x = 32 :: (y ++ List.replicate (W - y.length) 32) ++ [32]) := by unfold Hid celP celT; rw [if_neg hxw, ← hy, hyl]; simp
                rw [← hy]
                clear hyx hy hyl
                go_loop [16] (fun sv => ∃ q : Nat, q ≤ W - y.length ∧ sv = .string (tx (y ++ List.replicate q 32))) (fun sv => W - szOf sv)
                case atStart => exact ⟨0, by omega, by simp⟩
                case round =>
                  obtain ⟨q, hq, rfl⟩ := hrel
                  obtain ⟨t, ht⟩ : ∃ t, t = tx (y ++ List.replicate q 32) := ⟨_, rfl⟩
                  obtain ⟨n, hn'⟩ : ∃ n, n = y.length + q := ⟨_, rfl⟩
                  have st : t.size = n := by rw [ht, tx_size, hn']; simp
                  have E1 : Hid (t ++ ⟨#[32]⟩ = tx (y ++ List.replicate (q + 1) 32)) := by
                    unfold Hid
                    rw [ht, List.replicate_succ', ← List.append_assoc, ← tx_append]; rfl
                  have HT := Lib.hid ht
                  have HN := Lib.hid hn'
                  have hnW : n ≤ W := by omega
                  rw [← ht]
                  clear ht
                  by_cases hqs : q < W - y.length
                  · have dl2 : decide (n < W) = true := by simp; omega
                    have hlt : n < W := by omega
                    have s2 : ¬ 9223372036854775807 < n + (⟨#[32]⟩ : ByteArray).size := by
                      have : (⟨#[32]⟩ : ByteArray).size = 1 := rfl
                      rw [this]; omega
                    have s3 : ¬ 9223372036854775807 < n + 1 := by omega
                    clear hn'
                    go_wp2_with fail
                    go_round
                    case rel => exact ⟨q + 1, by omega, by rw [E1.out]⟩
                    case measure =>
                      have h1 : (⟨#[32]⟩ : ByteArray).size = 1 := rfl
                      simp [szOf, st, ByteArray.size_append, h1]; omega
                  · obtain rfl : q = W - y.length := by omega
                    have dl2 : decide (n < W) = false := by simp; omega
                    have hnl : ¬ n < W := by omega
                    have s2 : ¬ 9223372036854775807 < (⟨#[32]⟩ : ByteArray).size + n := by
                      have : (⟨#[32]⟩ : ByteArray).size = 1 := rfl
                      rw [this]; omega
                    have s3 : ¬ 9223372036854775807 < (⟨#[32]⟩ ++ t).size + (⟨#[32]⟩ : ByteArray).size := by
                      rw [ByteArray.size_append, st]; have : (⟨#[32]⟩ : ByteArray).size = 1 := rfl
                      omega
                    have E2 : Hid (⟨#[32]⟩ ++ t ++ ⟨#[32]⟩ = tx (celP W x)) := by
                      unfold Hid
                      rw [CE.out, HT.out]
                      show tx [32] ++ tx _ ++ tx [32] = _
                      rw [tx_append, tx_append]; rfl
                    have f8 := RG.out.free k
                    have d8 := RG.out.cell (j := k) (by rw [mixT_len]; exact hkn)
                    clear hn'
                    go_wp2_with fail
                    rw [E2.out]
                    have hst := RG.out.set k (celP W x)
                    rw [MX.out] at hst
                    refine ⟨⟨k + 1, by omega, by go_num, BB.out.far _ _ (Ne.symm h12), hst, OO.out.stored (by rw [← HG.out]; exact Nat.le_refl _) _⟩, ?_⟩
                    simp [intOf]; omega
            · obtain rfl : k = T.length := by omega
              rw [mixT_all] at RG
              go_wp2_with fail
              go_ret2
              exact ⟨g, by rw [HC.out.1, show (W : Int) + 2 = W + 1 + 1 by omega]; rfl, OO.out, by rw [HG.out]; omega, by rw [HC.out.2]; exact RG.out⟩
end Go.Proofs.Ytalkikljjffpmaa
