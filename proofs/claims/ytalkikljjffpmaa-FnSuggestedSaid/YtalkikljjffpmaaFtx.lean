/- goprompt.formatTexts of printable texts. -/
import Derived.Test.YtalkikljjffpmaaRowS
import Derived.Test.YtalkikljjffpmaaRepeat
import Derived.Deep.Cut
namespace Go.Proofs.Ytalkikljjffpmaa
open Go.RowKit
set_option linter.unusedVariables false
set_option linter.unusedSimpArgs false
set_option linter.unnecessarySimpa false
set_option maxRecDepth 100000

theorem le_wid {L : List Bs} {l : Bs} (h : l ∈ L) : l.length ≤ wid L := by
  induction L with
  | nil => simp at h
  | cons a L ih =>
    simp only [wid]
    rcases List.mem_cons.1 h with rfl | h
    · omega
    · have := ih h; omega
/-- The row behind k texts. -/
def mixT (W : Nat) (T : List Bs) (k : Nat) : List Bs := (T.take k).map (celP W) ++ List.replicate (T.length - k) []
theorem mixT_zero (W : Nat) (T : List Bs) : mixT W T 0 = List.replicate T.length [] := by simp [mixT]
theorem mixT_all (W : Nat) (T : List Bs) : mixT W T T.length = T.map (celP W) := by simp [mixT]
theorem mixT_len (W : Nat) (T : List Bs) (k : Nat) : (mixT W T k).length = T.length := by simp [mixT]; omega
theorem mixT_set (W : Nat) {T : List Bs} {k : Nat} (h : k < T.length) : (mixT W T k).set k (celP W T[k]) = mixT W T (k + 1) := by
  unfold mixT
  have hl : ((T.take k).map (celP W)).length = k := by simp; omega
  rw [List.set_append_right _ _ (by omega), hl, Nat.sub_self, show T.length - k = (T.length - (k + 1)) + 1 by omega, List.replicate_succ, List.set_cons_zero, List.take_succ_eq_append_getElem h, List.map_append, List.append_assoc]
  rfl
theorem pr_one : prT [32] := ⟨by simp, by simp⟩
theorem pr_dots : prT [46, 46, 46] := ⟨by simp, by simp⟩
set_option maxHeartbeats 4000000 in
theorem ftx_any (b : Nat) (T : List Bs) (m : Int) (w : World) (hr : RowS w b T) (hp : ∀ l ∈ T, prT l) (hw : ∀ l ∈ T, l.length ≤ 100) (hn : T.length ≤ 1000) (hm1 : -1000 ≤ m) (hm2 : m ≤ 1000) :
    Calls Try.prog 18 #[.slice (some ⟨b, 0, none⟩) T.length T.length, .int .i64 m, .string ⟨#[32]⟩, .string ⟨#[32]⟩] w fun e w' => ∃ g, e = .returned (.tuple #[.slice (some ⟨g, 0, none⟩) T.length T.length, .int .i64 (colN T m)]) ∧ Old w w' ∧ w.heap.size ≤ g ∧ RowS w' g (colT T m) := by
  have HR := Lib.hid hr
  have HP := Lib.hid hp
  have HW := Lib.hid hw
  have W1 : ∀ W, Calls Try.prog 19 #[.string ⟨#[32]⟩] W fun e w' => e = .returned (.int .i64 1) ∧ Old W w' := fun W => wd_any [32] W pr_one
  have W2 : ∀ W, Calls Try.prog 19 #[.string ⟨#[46, 46, 46]⟩] W fun e w' => e = .returned (.int .i64 3) ∧ Old W w' := fun W => wd_any [46, 46, 46] W pr_dots
  have A1 := Lib.hid W1
  have A2 := Lib.hid W2
  clear hr hp hw W1 W2
  go_enter Try.func18, Try.ntmps18
  go_upto_region 7 with (first
    | (at_make; refine wpList_make_rows rfl _ _ rfl _ _ _ _ T.length rfl rfl rfl rfl (by omega) ?_; intro w1 r1 o1 s1; have R1 := Lib.hid r1; have O1 := Lib.hid o1; have S1 := Lib.hid s1; clear r1 o1 s1)
    | (go_at_call 19; with_reducible refine (A1.out w1).mono ?_; rintro e w2 ⟨rfl, o2⟩; have O2 := Lib.hid (O1.out.trans o2); have V2 := Lib.hid o2; clear o2)
    | (go_at_call 19; with_reducible refine (A1.out w2).mono ?_; rintro e w3 ⟨rfl, o3⟩; have O3 := Lib.hid (O2.out.trans o3); have V3 := Lib.hid (V2.out.trans o3); clear o3)
    | (go_at_call 19; with_reducible refine (A2.out w3).mono ?_; rintro e w4 ⟨rfl, o4⟩; have O4 := Lib.hid (O3.out.trans o4); have V4 := Lib.hid (V3.out.trans o4); clear o4))
  obtain ⟨g, hg⟩ : ∃ g, g = w.heap.size := ⟨_, rfl⟩
  rw [← hg] at R1 S1 ⊢
  have HG := Lib.hid hg
  clear hg
  have hbg : b ≠ g := by have := HR.out.lt; have := HG.out; omega
  have RG4 := Lib.hid (R1.out.old V4.out)
  have B4 := Lib.hid (HR.out.old O4.out)
  go_wp2_with fail
  go_loopw [9, 16] (fun wv iv wr => ∃ k : Nat, k ≤ T.length ∧ iv = .int .i64 k ∧ wv = .int .i64 (wid (T.take k)) ∧ RowS wr b T ∧ RowS wr g (List.replicate T.length []) ∧ Old w4 wr) (fun _ iv _ => T.length - (intOf iv).toNat)
  case atStart => exact ⟨0, Nat.zero_le _, rfl, rfl, B4.out, RG4.out, Old.refl _⟩
  case round =>
    obtain ⟨k, hk, rfl, rfl, hb, hrg, hold⟩ := hrel
    have BB := Lib.hid hb
    have RG := Lib.hid hrg
    have OO := Lib.hid hold
    clear hold hrg
    have hwk : wid (T.take k) ≤ 100 := wid_le fun l hl => HW.out l (List.mem_of_mem_take hl)
    by_cases hkn : k < T.length
    · have c0 := hb.cell hkn
      have pk := HP.out _ (List.getElem_mem hkn)
      have hlk := HW.out _ (List.getElem_mem hkn)
      have WT := Lib.hid (wid_take hkn)
      have PK := Lib.hid pk
      clear hb pk
      go_upto_region 11 with (go_at_call 20; refine (db_any _ wr PK.out).mono ?_; rintro e w5 ⟨rfl, o5⟩; have B5 := Lib.hid (BB.out.old o5); have G5 := Lib.hid (RG.out.old o5); have O5 := Lib.hid (OO.out.trans o5); have f5 := B5.out.free k; have d5 := B5.out.cell hkn; clear o5)
      have ss := B5.out.same hkn
      have B6 := Lib.hid (B5.out.old ss)
      have G6 := Lib.hid (G5.out.old ss)
      have O6 := Lib.hid (O5.out.trans ss)
      clear ss f5 d5 c0
      generalize w5.setCell ⟨b, k, none⟩ (.string (tx T[k])) = w6 at B6 G6 O6 ⊢
      have d6 := B6.out.cell hkn
      obtain ⟨x, hx⟩ : ∃ x, x = T[k] := ⟨_, rfl⟩
      rw [← hx] at d6 hlk WT PK
      clear hx
      by_cases hlt : wid (T.take k) < x.length
      · have wk : wid (T.take (k + 1)) = x.length := by rw [WT.out]; omega
        have WK := Lib.hid wk
        clear wk
        go_wp2_with (go_at_call 19; refine (wd_any _ _ PK.out).mono ?_; rintro e w7 ⟨rfl, o7⟩; have B7 := Lib.hid (B6.out.old o7); have G7 := Lib.hid (G6.out.old o7); have O7 := Lib.hid (O6.out.trans o7); clear o7)
        go_roundw
        case rel => exact ⟨k + 1, by omega, by go_num, by rw [WK.out], B7.out, G7.out, O7.out⟩
        case measure => simp [intOf]; omega
      · have wk : wid (T.take (k + 1)) = wid (T.take k) := by rw [WT.out]; omega
        have WK := Lib.hid wk
        clear wk
        go_wp2_with (go_at_call 19; refine (wd_any _ _ PK.out).mono ?_; rintro e w7 ⟨rfl, o7⟩; have B7 := Lib.hid (B6.out.old o7); have G7 := Lib.hid (G6.out.old o7); have O7 := Lib.hid (O6.out.trans o7); clear o7)
        go_roundw
        case rel => exact ⟨k + 1, by omega, by go_num, by rw [WK.out], B7.out, G7.out, O7.out⟩
        case measure => simp [intOf]; omega
    · obtain rfl : k = T.length := by omega
      have ht : T.take T.length = T := List.take_length
      rw [ht] at hwk ⊢
      clear ht hb
      by_cases hz : wid T = 0
      · have hc1 : noCol T m = true := by unfold noCol; simp [hz]
        have hc2 : colN T m = 0 := by unfold colN; rw [hc1]; rfl
        have hc3 : colT T m = List.replicate T.length [] := by unfold colT; rw [hc1]; rfl
        have HC := Lib.hid (And.intro hc2 hc3)
        rw [hz]
        clear hc1 hc2 hc3
        go_wp2_with fail
        go_ret2
        exact ⟨g, by rw [HC.out.1]; rfl, O4.out.trans OO.out, by rw [HG.out]; omega, by rw [HC.out.2]; exact RG.out⟩
      · by_cases h5 : m ≤ 5
        · have hc1 : noCol T m = true := by unfold noCol; simp [h5]
          have hc2 : colN T m = 0 := by unfold colN; rw [hc1]; rfl
          have hc3 : colT T m = List.replicate T.length [] := by unfold colT; rw [hc1]; rfl
          have dz : ((wid T : Int) == 0) = false := by simp; exact hz
          have HC := Lib.hid (And.intro hc2 hc3)
          clear hc1 hc2 hc3
          go_wp2_with fail
          go_ret2
          exact ⟨g, by rw [HC.out.1]; rfl, O4.out.trans OO.out, by rw [HG.out]; omega, by rw [HC.out.2]; exact RG.out⟩
        · have hc1 : noCol T m = false := by unfold noCol; simp [hz, h5]
          have dz : ((wid T : Int) == 0) = false := by simp; exact hz
          obtain ⟨W, hW⟩ : ∃ W, W = colW T m := ⟨_, rfl⟩
          have hc2 : colN T m = (W : Int) + 2 := by unfold colN; rw [hc1, hW]; rfl
          have hc3 : colT T m = T.map (celP W) := by unfold colT; rw [hc1, hW]; rfl
          have HC := Lib.hid (And.intro hc2 hc3)
          unfold colW at hW
          clear hc1 hc2 hc3
          have hw3 : wid T ≤ W ∨ 3 ≤ W := by omega
          have hW1 : W ≤ 1000 := by omega
          by_cases hbig : m < wid T + 2
          · have hWm : m - 1 - 1 = (W : Int) := by omega
            clear hW
            go_upto_region 20 with fail
            clear hWm
            go_wp2_with fail
            go_loopw [18] (fun iv wr2 => ∃ k : Nat, k ≤ T.length ∧ iv = .int .i64 k ∧ RowS wr2 b T ∧ RowS wr2 g (mixT W T k) ∧ Old w wr2) (fun iv _ => T.length - (intOf iv).toNat)
            case atStart => exact ⟨0, Nat.zero_le _, rfl, BB.out, by rw [mixT_zero]; exact RG.out, O4.out.trans OO.out⟩
            case round =>
              obtain ⟨k, hk, rfl, hb, hrg, hold⟩ := hrel
              have BB := Lib.hid hb
              have RG := Lib.hid hrg
              have OO := Lib.hid hold
              clear hold hrg
              by_cases hkn : k < T.length
              · have c0 := hb.cell hkn
                have pk := HP.out _ (List.getElem_mem hkn)
                have hlk := HW.out _ (List.getElem_mem hkn)
                have hwk := le_wid (List.getElem_mem hkn)
                have MX := Lib.hid (mixT_set W hkn)
                obtain ⟨x, hx⟩ : ∃ x, x = T[k] := ⟨_, rfl⟩
                rw [← hx] at c0 hlk hwk MX pk
                have HX := Lib.hid hx
                have PK := Lib.hid pk
                clear hx hb pk
                by_cases hxw : x.length ≤ W
                · obtain ⟨q, hq⟩ : ∃ q, q = W - x.length := ⟨_, rfl⟩
                  have hi : IntKind.i64.wrap ((W : Int) - (x.length : Int)) = (q : Int) := by rw [IntKind.wrap_i64]; omega
                  have hq1 : q ≤ 1000 := by omega
                  have CE : Hid (celP W x = 32 :: (x ++ List.replicate q 32) ++ [32]) := by unfold Hid celP celT; rw [if_pos hxw, hq]
                  have dl : decide ((x.length : Int) ≤ W) = true := by simp; omega
                  clear hq
                  have s1 : ¬ 9223372036854775807 < (⟨#[32]⟩ : ByteArray).size + (tx x).size := by
                    have : (⟨#[32]⟩ : ByteArray).size = 1 := rfl
                    rw [tx_size, this]; omega
                  have s2 : ¬ 9223372036854775807 < (⟨#[32]⟩ ++ tx x).size + (tx (List.replicate q 32)).size := by
                    rw [ByteArray.size_append, tx_size, tx_size, List.length_replicate]; have : (⟨#[32]⟩ : ByteArray).size = 1 := rfl
                    omega
                  have s3 : ¬ 9223372036854775807 < (⟨#[32]⟩ ++ tx x ++ tx (List.replicate q 32)).size + (⟨#[32]⟩ : ByteArray).size := by
                    rw [ByteArray.size_append, ByteArray.size_append, tx_size, tx_size, List.length_replicate]; have : (⟨#[32]⟩ : ByteArray).size = 1 := rfl
                    omega
                  have EQ : Hid (⟨#[32]⟩ ++ tx x ++ tx (List.replicate q 32) ++ ⟨#[32]⟩ = tx (celP W x)) := by
                    unfold Hid
                    rw [CE.out]
                    show tx [32] ++ tx x ++ tx (List.replicate q 32) ++ tx [32] = _
                    rw [tx_append, tx_append, tx_append]; simp
                  go_upto_region 26 with (first
                    | (go_at_call 19; refine (wd_any _ _ PK.out).mono ?_; rintro e w7 ⟨rfl, o7⟩; have B7 := Lib.hid (BB.out.old o7); have G7 := Lib.hid (RG.out.old o7); have O7 := Lib.hid (OO.out.trans o7); clear o7)
                    | (go_at_call 21; refine (rep_any q _ (by omega)).mono ?_; rintro e w8 ⟨rfl, o8⟩; have B8 := Lib.hid (B7.out.old o8); have G8 := Lib.hid (G7.out.old o8); have O8 := Lib.hid (O7.out.trans o8); clear o8))
                  have c8 := B8.out.cell hkn
                  rw [← HX.out] at c8
                  have f8 := G8.out.free k
                  have d8 := G8.out.cell (j := k) (by rw [mixT_len]; exact hkn)
                  clear c0
                  go_wp2_with fail
                  rw [EQ.out]
                  have hst := G8.out.set k (celP W x)
                  rw [MX.out] at hst
                  refine ⟨⟨k + 1, by omega, by go_num, B8.out.far _ _ hbg, hst, O8.out.stored (by rw [← HG.out]; exact Nat.le_refl _) _⟩, ?_⟩
                  simp [intOf]; omega
                · have h3 : 3 ≤ W := by omega
                  have dl : decide ((x.length : Int) ≤ W) = false := by simp; omega
                  have dl2 : decide ((x.length : Int) > W) = true := by simp; omega
                  have CE : Hid (celP W x = 32 :: (x.take (W - 3) ++ [46, 46, 46]) ++ [32]) := by unfold Hid celP celT; rw [if_neg hxw]
                  have tr0 : ∀ W1, Calls Try.prog 22 #[.string (tx x), .int .i64 W, .string ⟨#[46, 46, 46]⟩] W1 fun e w' => e = .returned (.string (tx (x.take (W - 3) ++ [46, 46, 46]))) ∧ Old W1 w' := fun W1 => tr_any x [46, 46, 46] W W1 PK.out pr_dots h3 (by omega)
                  obtain ⟨y, hy⟩ : ∃ y, y = x.take (W - 3) ++ [46, 46, 46] := ⟨_, rfl⟩
                  rw [← hy] at CE tr0
                  have py : prT y := by
                    rw [hy]
                    refine ⟨fun c hc => ?_, by simp; omega⟩
                    rcases List.mem_append.1 hc with h | h
                    · exact PK.out.a c (List.mem_of_mem_take h)
                    · exact pr_dots.a c h
                  have ly : y.length = W := by rw [hy]; simp; omega
                  have fr0 := fun W1 => fr_any y W W1 py hW1
                  rw [ly, Nat.sub_self] at fr0
                  simp only [List.replicate_zero, List.append_nil] at fr0
                  have TR0 := Lib.hid tr0
                  have FR0 := Lib.hid fr0
                  clear hy tr0 fr0
                  have s1 : ¬ 9223372036854775807 < (⟨#[32]⟩ : ByteArray).size + (tx y).size := by
                    have : (⟨#[32]⟩ : ByteArray).size = 1 := rfl
                    rw [tx_size, this]; omega
                  have s3 : ¬ 9223372036854775807 < (⟨#[32]⟩ ++ tx y).size + (⟨#[32]⟩ : ByteArray).size := by
                    rw [ByteArray.size_append, tx_size]; have : (⟨#[32]⟩ : ByteArray).size = 1 := rfl
                    omega
                  have EQ : Hid (⟨#[32]⟩ ++ tx y ++ ⟨#[32]⟩ = tx (celP W x)) := by
                    unfold Hid
                    rw [CE.out]
                    show tx [32] ++ tx y ++ tx [32] = _
                    rw [tx_append, tx_append]; rfl
                  go_upto_region 28 with (go_at_call 19; refine (wd_any _ _ PK.out).mono ?_; rintro e w7 ⟨rfl, o7⟩; have B7 := Lib.hid (BB.out.old o7); have G7 := Lib.hid (RG.out.old o7); have O7 := Lib.hid (OO.out.trans o7); clear o7)
                  have c8 := B7.out.cell hkn
                  rw [← HX.out] at c8
                  clear c0
                  go_upto_region 29 with (go_at_call 22; refine (TR0.out _).mono ?_; rintro e w8 ⟨rfl, o8⟩; have B8 := Lib.hid (B7.out.old o8); have G8 := Lib.hid (G7.out.old o8); have O8 := Lib.hid (O7.out.trans o8); clear o8)
                  clear c8
                  go_wp2_with (go_at_call 23; refine (FR0.out _).mono ?_; rintro e w9 ⟨rfl, o9⟩; have B9 := Lib.hid (B8.out.old o9); have G9 := Lib.hid (G8.out.old o9); have O9 := Lib.hid (O8.out.trans o9); have f9 := G9.out.free k; have d9 := G9.out.cell (j := k) (by rw [mixT_len]; exact hkn); clear o9)
                  rw [EQ.out]
                  have hst := G9.out.set k (celP W x)
                  rw [MX.out] at hst
                  refine ⟨⟨k + 1, by omega, by go_num, B9.out.far _ _ hbg, hst, O9.out.stored (by rw [← HG.out]; exact Nat.le_refl _) _⟩, ?_⟩
                  simp [intOf]; omega
              · obtain rfl : k = T.length := by omega
                go_wp2_with fail
                go_ret2
                exact ⟨g, by rw [HC.out.1, show (W : Int) + 2 = 1 + W + 1 by omega]; rfl, OO.out, by rw [HG.out]; omega, by rw [HC.out.2, ← mixT_all]; exact RG.out⟩
          · have hWm : wid T = W := by omega
            clear hW
            rw [hWm]
            rw [hWm] at dz hz hbig hwk
            clear hWm
            go_upto_region 20 with fail
            go_wp2_with fail
            go_loopw [18] (fun iv wr2 => ∃ k : Nat, k ≤ T.length ∧ iv = .int .i64 k ∧ RowS wr2 b T ∧ RowS wr2 g (mixT W T k) ∧ Old w wr2) (fun iv _ => T.length - (intOf iv).toNat)
            case atStart => exact ⟨0, Nat.zero_le _, rfl, BB.out, by rw [mixT_zero]; exact RG.out, O4.out.trans OO.out⟩
            case round =>
              obtain ⟨k, hk, rfl, hb, hrg, hold⟩ := hrel
              have BB := Lib.hid hb
              have RG := Lib.hid hrg
              have OO := Lib.hid hold
              clear hold hrg
              by_cases hkn : k < T.length
              · have c0 := hb.cell hkn
                have pk := HP.out _ (List.getElem_mem hkn)
                have hlk := HW.out _ (List.getElem_mem hkn)
                have hwk := le_wid (List.getElem_mem hkn)
                have MX := Lib.hid (mixT_set W hkn)
                obtain ⟨x, hx⟩ : ∃ x, x = T[k] := ⟨_, rfl⟩
                rw [← hx] at c0 hlk hwk MX pk
                have HX := Lib.hid hx
                have PK := Lib.hid pk
                clear hx hb pk
                by_cases hxw : x.length ≤ W
                · obtain ⟨q, hq⟩ : ∃ q, q = W - x.length := ⟨_, rfl⟩
                  have hi : IntKind.i64.wrap ((W : Int) - (x.length : Int)) = (q : Int) := by rw [IntKind.wrap_i64]; omega
                  have hq1 : q ≤ 1000 := by omega
                  have CE : Hid (celP W x = 32 :: (x ++ List.replicate q 32) ++ [32]) := by unfold Hid celP celT; rw [if_pos hxw, hq]
                  have dl : decide ((x.length : Int) ≤ W) = true := by simp; omega
                  clear hq
                  have s1 : ¬ 9223372036854775807 < (⟨#[32]⟩ : ByteArray).size + (tx x).size := by
                    have : (⟨#[32]⟩ : ByteArray).size = 1 := rfl
                    rw [tx_size, this]; omega
                  have s2 : ¬ 9223372036854775807 < (⟨#[32]⟩ ++ tx x).size + (tx (List.replicate q 32)).size := by
                    rw [ByteArray.size_append, tx_size, tx_size, List.length_replicate]; have : (⟨#[32]⟩ : ByteArray).size = 1 := rfl
                    omega
                  have s3 : ¬ 9223372036854775807 < (⟨#[32]⟩ ++ tx x ++ tx (List.replicate q 32)).size + (⟨#[32]⟩ : ByteArray).size := by
                    rw [ByteArray.size_append, ByteArray.size_append, tx_size, tx_size, List.length_replicate]; have : (⟨#[32]⟩ : ByteArray).size = 1 := rfl
                    omega
                  have EQ : Hid (⟨#[32]⟩ ++ tx x ++ tx (List.replicate q 32) ++ ⟨#[32]⟩ = tx (celP W x)) := by
                    unfold Hid
                    rw [CE.out]
                    show tx [32] ++ tx x ++ tx (List.replicate q 32) ++ tx [32] = _
                    rw [tx_append, tx_append, tx_append]; simp
                  go_upto_region 26 with (first
                    | (go_at_call 19; refine (wd_any _ _ PK.out).mono ?_; rintro e w7 ⟨rfl, o7⟩; have B7 := Lib.hid (BB.out.old o7); have G7 := Lib.hid (RG.out.old o7); have O7 := Lib.hid (OO.out.trans o7); clear o7)
                    | (go_at_call 21; refine (rep_any q _ (by omega)).mono ?_; rintro e w8 ⟨rfl, o8⟩; have B8 := Lib.hid (B7.out.old o8); have G8 := Lib.hid (G7.out.old o8); have O8 := Lib.hid (O7.out.trans o8); clear o8))
                  have c8 := B8.out.cell hkn
                  rw [← HX.out] at c8
                  have f8 := G8.out.free k
                  have d8 := G8.out.cell (j := k) (by rw [mixT_len]; exact hkn)
                  clear c0
                  go_wp2_with fail
                  rw [EQ.out]
                  have hst := G8.out.set k (celP W x)
                  rw [MX.out] at hst
                  refine ⟨⟨k + 1, by omega, by go_num, B8.out.far _ _ hbg, hst, O8.out.stored (by rw [← HG.out]; exact Nat.le_refl _) _⟩, ?_⟩
                  simp [intOf]; omega
                · have h3 : 3 ≤ W := by omega
                  have dl : decide ((x.length : Int) ≤ W) = false := by simp; omega
                  have dl2 : decide ((x.length : Int) > W) = true := by simp; omega
                  have CE : Hid (celP W x = 32 :: (x.take (W - 3) ++ [46, 46, 46]) ++ [32]) := by unfold Hid celP celT; rw [if_neg hxw]
                  have tr0 : ∀ W1, Calls Try.prog 22 #[.string (tx x), .int .i64 W, .string ⟨#[46, 46, 46]⟩] W1 fun e w' => e = .returned (.string (tx (x.take (W - 3) ++ [46, 46, 46]))) ∧ Old W1 w' := fun W1 => tr_any x [46, 46, 46] W W1 PK.out pr_dots h3 (by omega)
                  obtain ⟨y, hy⟩ : ∃ y, y = x.take (W - 3) ++ [46, 46, 46] := ⟨_, rfl⟩
                  rw [← hy] at CE tr0
                  have py : prT y := by
                    rw [hy]
                    refine ⟨fun c hc => ?_, by simp; omega⟩
                    rcases List.mem_append.1 hc with h | h
                    · exact PK.out.a c (List.mem_of_mem_take h)
                    · exact pr_dots.a c h
                  have ly : y.length = W := by rw [hy]; simp; omega
                  have fr0 := fun W1 => fr_any y W W1 py hW1
                  rw [ly, Nat.sub_self] at fr0
                  simp only [List.replicate_zero, List.append_nil] at fr0
                  have TR0 := Lib.hid tr0
                  have FR0 := Lib.hid fr0
                  clear hy tr0 fr0
                  have s1 : ¬ 9223372036854775807 < (⟨#[32]⟩ : ByteArray).size + (tx y).size := by
                    have : (⟨#[32]⟩ : ByteArray).size = 1 := rfl
                    rw [tx_size, this]; omega
                  have s3 : ¬ 9223372036854775807 < (⟨#[32]⟩ ++ tx y).size + (⟨#[32]⟩ : ByteArray).size := by
                    rw [ByteArray.size_append, tx_size]; have : (⟨#[32]⟩ : ByteArray).size = 1 := rfl
                    omega
                  have EQ : Hid (⟨#[32]⟩ ++ tx y ++ ⟨#[32]⟩ = tx (celP W x)) := by
                    unfold Hid
                    rw [CE.out]
                    show tx [32] ++ tx y ++ tx [32] = _
                    rw [tx_append, tx_append]; rfl
                  go_upto_region 28 with (go_at_call 19; refine (wd_any _ _ PK.out).mono ?_; rintro e w7 ⟨rfl, o7⟩; have B7 := Lib.hid (BB.out.old o7); have G7 := Lib.hid (RG.out.old o7); have O7 := Lib.hid (OO.out.trans o7); clear o7)
                  have c8 := B7.out.cell hkn
                  rw [← HX.out] at c8
                  clear c0
                  go_upto_region 29 with (go_at_call 22; refine (TR0.out _).mono ?_; rintro e w8 ⟨rfl, o8⟩; have B8 := Lib.hid (B7.out.old o8); have G8 := Lib.hid (G7.out.old o8); have O8 := Lib.hid (O7.out.trans o8); clear o8)
                  clear c8
                  go_wp2_with (go_at_call 23; refine (FR0.out _).mono ?_; rintro e w9 ⟨rfl, o9⟩; have B9 := Lib.hid (B8.out.old o9); have G9 := Lib.hid (G8.out.old o9); have O9 := Lib.hid (O8.out.trans o9); have f9 := G9.out.free k; have d9 := G9.out.cell (j := k) (by rw [mixT_len]; exact hkn); clear o9)
                  rw [EQ.out]
                  have hst := G9.out.set k (celP W x)
                  rw [MX.out] at hst
                  refine ⟨⟨k + 1, by omega, by go_num, B9.out.far _ _ hbg, hst, O9.out.stored (by rw [← HG.out]; exact Nat.le_refl _) _⟩, ?_⟩
                  simp [intOf]; omega
              · obtain rfl : k = T.length := by omega
                go_wp2_with fail
                go_ret2
                exact ⟨g, by rw [HC.out.1, show (W : Int) + 2 = 1 + W + 1 by omega]; rfl, OO.out, by rw [HG.out]; omega, by rw [HC.out.2, ← mixT_all]; exact RG.out⟩
end Go.Proofs.Ytalkikljjffpmaa
