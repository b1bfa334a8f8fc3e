/- goprompt.formatSuggestions of printable suggestions. -/
import Derived.Test.YtalkikljjffpmaaFtx
import Derived.Test.YtalkikljjffpmaaRowQ
import Derived.StillTailTactics
namespace Go.Proofs.Ytalkikljjffpmaa
open Go.RowKit
set_option linter.unusedVariables false
set_option linter.unusedSimpArgs false
set_option linter.unnecessarySimpa false
set_option maxRecDepth 100000

theorem PR.at_ {w : World} {ad : Option Addr} {n c : Nat} {L : List (Bs × Bs)} (h : PR w (.slice ad n c) L) {j : Nat} (hj : j < L.length) : ∃ b o, ad = some ⟨b, o, none⟩ ∧ b < w.heap.size ∧ w.cell? ⟨b, o + j * 2, none⟩ = some (.string (tx L[j].1)) ∧ w.cell? ⟨b, o + j * 2 + 1, none⟩ = some (.string (tx L[j].2)) := by
  obtain ⟨ad', c', e0, -, -, h3⟩ := h
  injection e0 with e1 e2 e3
  subst e1
  exact h3 j hj
/-- The row behind k texts. -/
def mixS (T : List Bs) (k : Nat) : List Bs := T.take k ++ List.replicate (T.length - k) []
theorem mixS_zero (T : List Bs) : mixS T 0 = List.replicate T.length [] := by simp [mixS]
theorem mixS_all (T : List Bs) : mixS T T.length = T := by simp [mixS]
theorem mixS_len (T : List Bs) (k : Nat) : (mixS T k).length = T.length := by simp [mixS]; omega
theorem mixS_set {T : List Bs} {k : Nat} (h : k < T.length) : (mixS T k).set k T[k] = mixS T (k + 1) := by
  unfold mixS
  have hl : (T.take k).length = k := by simp; omega
  rw [List.set_append_right _ _ (by omega), hl, Nat.sub_self, show T.length - k = (T.length - (k + 1)) + 1 by omega, List.replicate_succ, List.set_cons_zero, List.take_succ_eq_append_getElem h, List.append_assoc]
  rfl
def mixQ (T : List (Bs × Bs)) (k : Nat) : List (Bs × Bs) := T.take k ++ List.replicate (T.length - k) ([], [])
theorem mixQ_zero (T : List (Bs × Bs)) : mixQ T 0 = List.replicate T.length ([], []) := by simp [mixQ]
theorem mixQ_all (T : List (Bs × Bs)) : mixQ T T.length = T := by simp [mixQ]
theorem mixQ_len (T : List (Bs × Bs)) (k : Nat) : (mixQ T k).length = T.length := by simp [mixQ]; omega
theorem mixQ_set {T : List (Bs × Bs)} {k : Nat} (h : k < T.length) : (mixQ T k).set k T[k] = mixQ T (k + 1) := by
  unfold mixQ
  have hl : (T.take k).length = k := by simp; omega
  rw [List.set_append_right _ _ (by omega), hl, Nat.sub_self, show T.length - k = (T.length - (k + 1)) + 1 by omega, List.replicate_succ, List.set_cons_zero, List.take_succ_eq_append_getElem h, List.append_assoc]
  rfl
def lefts (L : List (Bs × Bs)) : List Bs := L.map Prod.fst
def rights (L : List (Bs × Bs)) : List Bs := L.map Prod.snd
theorem lefts_get {L : List (Bs × Bs)} {k : Nat} (h : k < L.length) (h' : k < (lefts L).length) : (lefts L)[k] = L[k].1 := by simp [lefts]
theorem rights_get {L : List (Bs × Bs)} {k : Nat} (h : k < L.length) (h' : k < (rights L).length) : (rights L)[k] = L[k].2 := by simp [rights]
theorem colN_bd (T : List Bs) {m : Int} (h : 0 ≤ m) : 0 ≤ colN T m ∧ colN T m ≤ m := by
  unfold colN
  split
  · omega
  · rename_i hh
    have : ¬ m ≤ 5 := by intro h5; apply hh; unfold noCol; simp [h5]
    unfold colW
    omega
/-- The suggestions as two columns, and how wide they are. -/
def fmT (L : List (Bs × Bs)) (m : Int) : List (Bs × Bs) := if colN (lefts L) m = 0 then [] else (colT (lefts L) m).zip (colT (rights L) (m - colN (lefts L) m))
def fmN (L : List (Bs × Bs)) (m : Int) : Int := if colN (lefts L) m = 0 then 0 else colN (lefts L) m + colN (rights L) (m - colN (lefts L) m)
set_option maxHeartbeats 4000000 in
theorem fms_any (v : Value) (L : List (Bs × Bs)) (m : Int) (w : World) (hr : PR w v L) (hp : ∀ p ∈ L, prT p.1 ∧ prT p.2 ∧ p.1.length ≤ 100 ∧ p.2.length ≤ 100) (hn : L.length ≤ 1000) (hm1 : 0 ≤ m) (hm2 : m ≤ 500) :
    Calls Try.prog 17 #[v, .int .i64 m] w fun e w' => ∃ v', e = .returned (.tuple #[v', .int .i64 (fmN L m)]) ∧ Old w w' ∧ PR w' v' (fmT L m) := by
  have HR := Lib.hid hr
  have HP := Lib.hid hp
  obtain ⟨ad, c, rfl, h1, h2, -⟩ := hr
  clear hp
  have LL : Hid ((lefts L).length = L.length) := by unfold Hid lefts; simp
  have LR : Hid ((rights L).length = L.length) := by unfold Hid rights; simp
  go_enter Try.func17, Try.ntmps17
  go_wp2_with (first
    | (at_make; refine wpList_make_rowq rfl _ _ rfl _ _ _ _ L.length rfl rfl rfl rfl (by omega) ?_; intro w1 r1 o1 s1; have R1 := Lib.hid r1; have O1 := Lib.hid o1; have S1 := Lib.hid s1; clear r1 o1 s1)
    | (at_make; refine wpList_make_rows rfl _ _ rfl _ _ _ _ L.length rfl rfl rfl rfl (by omega) ?_; intro w2 r2 o2 s2; have R2 := Lib.hid r2; have O2 := Lib.hid (O1.out.trans o2); have V2 := Lib.hid o2; have S2 := Lib.hid s2; clear r2 o2 s2))
  obtain ⟨g0, hg0⟩ : ∃ g, g = w.heap.size := ⟨_, rfl⟩
  obtain ⟨g1, hg1⟩ : ∃ g, g = w1.heap.size := ⟨_, rfl⟩
  rw [← hg0] at R1 S1 ⊢
  rw [← hg1] at R2 S2 ⊢
  have HG0 := Lib.hid hg0
  have HG1 := Lib.hid hg1
  have h01 : g0 ≠ g1 := by have := R1.out.lt; omega
  clear hg0 hg1
  have Q2 := Lib.hid (R1.out.old V2.out)
  go_loopw [8] (fun iv wr => ∃ k : Nat, k ≤ L.length ∧ iv = .int .i64 k ∧ RowS wr g1 (mixS (lefts L) k) ∧ RowQ wr g0 (List.replicate L.length ([], [])) ∧ Old w wr) (fun iv _ => L.length - (intOf iv).toNat)
  case atStart => exact ⟨0, Nat.zero_le _, rfl, by rw [mixS_zero, LL.out]; exact R2.out, Q2.out, O2.out⟩
  case round =>
    obtain ⟨k, hk, rfl, hrg, hq, hold⟩ := hrel
    have RG := Lib.hid hrg
    have QQ := Lib.hid hq
    have OO := Lib.hid hold
    clear hrg hq hold
    by_cases hkn : k < L.length
    · obtain ⟨b, o, rfl, hb, c1, c2⟩ := (HR.out.old OO.out).at_ hkn
      clear c2 hb
      have f1 := RG.out.free k
      have d1 := RG.out.cell (j := k) (by rw [mixS_len, LL.out]; exact hkn)
      have kl : k < (lefts L).length := by rw [LL.out]; exact hkn
      have MX := Lib.hid (mixS_set kl)
      have hx := lefts_get hkn kl
      rw [hx] at MX
      clear hx kl
      generalize L[k].1 = x at c1 MX
      go_wp2_with fail
      have hst := RG.out.set k x
      rw [MX.out] at hst
      refine ⟨⟨k + 1, by omega, by go_num, hst, QQ.out.far _ _ h01, OO.out.stored (by have h3 := HG1.out; have h4 := O1.out.size; simp only; omega) _⟩, ?_⟩
      simp [intOf]; omega
    · obtain rfl : k = L.length := by omega
      rw [← LL.out, mixS_all] at RG
      have X1 := Lib.hid OO.out
      go_wp2_with (at_make; refine wpList_make_rows rfl _ _ rfl _ _ _ _ L.length rfl rfl rfl rfl (by omega) ?_; intro w3 r3 o3 s3; have R3 := Lib.hid r3; have O3 := Lib.hid (X1.out.trans o3); have G3 := Lib.hid (RG.out.old o3); have Q3 := Lib.hid (QQ.out.old o3); have S3 := Lib.hid s3; clear r3 o3 s3)
      have hwr := X1.out.size
      obtain ⟨g2, hg2⟩ : ∃ g, g = wr.heap.size := ⟨_, rfl⟩
      rw [← hg2] at R3 S3 hwr ⊢
      have h12 : g1 ≠ g2 := by have := RG.out.lt; omega
      have h02 : g0 ≠ g2 := by have := QQ.out.lt; omega
      clear hg2
      clear RG QQ OO X1
      go_loopw [10] (fun iv wr2 => ∃ k : Nat, k ≤ L.length ∧ iv = .int .i64 k ∧ RowS wr2 g2 (mixS (rights L) k) ∧ RowS wr2 g1 (lefts L) ∧ RowQ wr2 g0 (List.replicate L.length ([], [])) ∧ Old w wr2) (fun iv _ => L.length - (intOf iv).toNat)
      case atStart => exact ⟨0, Nat.zero_le _, rfl, by rw [mixS_zero, LR.out]; exact R3.out, G3.out, Q3.out, O3.out⟩
      case round =>
        obtain ⟨k, hk, rfl, hrg, hgl, hq, hold⟩ := hrel
        have RG := Lib.hid hrg
        have GL := Lib.hid hgl
        have QQ := Lib.hid hq
        have OO := Lib.hid hold
        clear hrg hgl hq hold
        by_cases hkn : k < L.length
        · obtain ⟨b, o, rfl, hb, c1, c2⟩ := (HR.out.old OO.out).at_ hkn
          clear c1 hb
          have f1 := RG.out.free k
          have d1 := RG.out.cell (j := k) (by rw [mixS_len, LR.out]; exact hkn)
          have kl : k < (rights L).length := by rw [LR.out]; exact hkn
          have MX := Lib.hid (mixS_set kl)
          have hx := rights_get hkn kl
          rw [hx] at MX
          clear hx kl
          generalize L[k].2 = x at c2 MX
          go_wp2_with fail
          have hst := RG.out.set k x
          rw [MX.out] at hst
          refine ⟨⟨k + 1, by omega, by go_num, hst, GL.out.far _ _ h12, QQ.out.far _ _ h02, OO.out.stored hwr _⟩, ?_⟩
          simp [intOf]; omega
        · obtain rfl : k = L.length := by omega
          rw [← LR.out, mixS_all] at RG
          have X2 := Lib.hid OO.out
          have FT1 := fun W h => ftx_any g1 (lefts L) m W h (fun l hl => by obtain ⟨p, hp, rfl⟩ := List.mem_map.1 hl; exact (HP.out p hp).1) (fun l hl => by obtain ⟨p, hp, rfl⟩ := List.mem_map.1 hl; exact (HP.out p hp).2.2.1) (by rw [LL.out]; exact hn) (by omega) (by omega)
          have FT2 := fun W m2 h (i1 : -1000 ≤ m2) (i2 : m2 ≤ 1000) => ftx_any g2 (rights L) m2 W h (fun l hl => by obtain ⟨p, hp, rfl⟩ := List.mem_map.1 hl; exact (HP.out p hp).2.1) (fun l hl => by obtain ⟨p, hp, rfl⟩ := List.mem_map.1 hl; exact (HP.out p hp).2.2.2) (by rw [LR.out]; exact hn) i1 i2
          rw [LL.out] at FT1
          rw [LR.out] at FT2
          have F1 := Lib.hid FT1
          have F2 := Lib.hid FT2
          clear FT1 FT2
          go_upto_region 14 with (go_at_call 18; refine (F1.out _ GL.out).mono ?_; rintro e w4 ⟨g4, rfl, o4, hg4, r4⟩; have R4 := Lib.hid r4; have O4 := Lib.hid (X2.out.trans o4); have Q4 := Lib.hid (QQ.out.old o4); have G4 := Lib.hid (RG.out.old o4); have HG4 := Lib.hid hg4; clear o4 hg4 r4)
          obtain ⟨j0, jm⟩ := colN_bd (lefts L) hm1
          by_cases hz : colN (lefts L) m = 0
          · have T0 : Hid (fmT L m = [] ∧ fmN L m = 0) := by unfold Hid fmT fmN; simp [hz]
            rw [hz]
            go_wp2_with fail
            go_ret2
            exact ⟨_, by rw [T0.out.2]; rfl, O4.out.trans (Old.alloc _ _), by rw [T0.out.1]; exact ⟨_, _, rfl, by simp, by unfold maxLen; omega, fun j hj => absurd hj (by simp)⟩⟩
          · have T1 : Hid (fmT L m = (colT (lefts L) m).zip (colT (rights L) (m - colN (lefts L) m)) ∧ fmN L m = colN (lefts L) m + colN (rights L) (m - colN (lefts L) m)) := by unfold Hid fmT fmN; simp [hz]
            have dz : (colN (lefts L) m == 0) = false := by simp; exact hz
            have LZ : Hid (((colT (lefts L) m).zip (colT (rights L) (m - colN (lefts L) m))).length = L.length) := by unfold Hid; rw [List.length_zip, colT_len, colT_len, LL.out, LR.out]; simp
            have ZG : Hid (∀ k (h : k < L.length) h1 h2 h3, ((colT (lefts L) m).zip (colT (rights L) (m - colN (lefts L) m)))[k]'h1 = ((colT (lefts L) m)[k]'h2, (colT (rights L) (m - colN (lefts L) m))[k]'h3)) := fun k h h1 h2 h3 => by simp
            have CA : Hid ((colT (lefts L) m).length = L.length) := by unfold Hid; rw [colT_len, LL.out]
            have CB : Hid ((colT (rights L) (m - colN (lefts L) m)).length = L.length) := by unfold Hid; rw [colT_len, LR.out]
            have k0 := colN_bd (rights L) (m := m - colN (lefts L) m) (by omega)
            go_upto_region 17 with (go_at_call 18; refine (F2.out _ (m - colN (lefts L) m) G4.out (by omega) (by omega)).mono ?_; rintro e w5 ⟨g5, rfl, o5, hg5, r5⟩; have R5 := Lib.hid r5; have O5 := Lib.hid (O4.out.trans o5); have Q5 := Lib.hid (Q4.out.old o5); have L5 := Lib.hid (R4.out.old o5); have HG5 := Lib.hid hg5; clear o5 hg5 r5)
            generalize colN (rights L) (m - colN (lefts L) m) = nr at k0 T1 ⊢
            generalize colT (rights L) (m - colN (lefts L) m) = B at T1 LZ ZG CB R5 ⊢
            generalize colT (lefts L) m = A at T1 LZ ZG CA L5 R4 ⊢
            generalize colN (lefts L) m = nl at T1 j0 jm k0 dz hz ⊢
            generalize A.zip B = Z at T1 LZ ZG ⊢
            have g05 : g0 ≠ g5 := by have := HG5.out; have := Q4.out.lt; omega
            have g04 : g0 ≠ g4 := by have := HG4.out; have := QQ.out.lt; omega
            have hg0 : w.heap.size ≤ g0 := by rw [HG0.out]; exact Nat.le_refl _
            go_wp2_with fail
            go_loopw [13] (fun iv wr3 => ∃ k : Nat, k ≤ L.length ∧ iv = .int .i64 k ∧ RowQ wr3 g0 (mixQ Z k) ∧ RowS wr3 g4 A ∧ RowS wr3 g5 B ∧ Old w wr3) (fun iv _ => L.length - (intOf iv).toNat)
            case atStart => exact ⟨0, Nat.zero_le _, rfl, by rw [mixQ_zero, LZ.out]; exact Q5.out, L5.out, R5.out, O5.out⟩
            case round =>
              obtain ⟨k, hk, rfl, hq, hra, hrb, hold⟩ := hrel
              have QA := Lib.hid hq
              have RA := Lib.hid hra
              have RB := Lib.hid hrb
              have OA := Lib.hid hold
              clear hq hra hrb hold
              by_cases hkn : k < L.length
              · have ka : k < A.length := by rw [CA.out]; exact hkn
                have kb : k < B.length := by rw [CB.out]; exact hkn
                have kz : k < Z.length := by rw [LZ.out]; exact hkn
                have MQ := Lib.hid (mixQ_set kz)
                rw [ZG.out k hkn kz ka kb] at MQ
                have ca := RA.out.cell ka
                have cb := RB.out.cell kb
                generalize A[k] = x at ca MQ
                generalize B[k] = y at cb MQ
                have f0 := QA.out.free (k * 2)
                have f1 := QA.out.free (k * 2 + 1)
                obtain ⟨d0, d1⟩ := QA.out.cell (j := k) (by rw [mixQ_len, LZ.out]; exact hkn)
                go_upto_region 20 with fail
                go_still_tail 12, (by kernel_rfl)
                go_wp2_with fail
                have hst := QA.out.set k x y
                rw [MQ.out] at hst
                refine ⟨⟨k + 1, by omega, by go_num, hst.old (Old.drew _), ((RA.out.far _ _ (Ne.symm g04)).far _ _ (Ne.symm g04)).old (Old.drew _), ((RB.out.far _ _ (Ne.symm g05)).far _ _ (Ne.symm g05)).old (Old.drew _), ((OA.out.stored hg0 _).stored hg0 _).then_drew⟩, ?_⟩
                simp [intOf]; omega
              · obtain rfl : k = L.length := by omega
                rw [← LZ.out, mixQ_all] at QA
                go_wp2_with fail
                go_ret2
                exact ⟨_, by rw [T1.out.2]; rfl, OA.out, by rw [T1.out.1, ← LZ.out]; exact QA.out.pr (by rw [LZ.out]; omega)⟩
end Go.Proofs.Ytalkikljjffpmaa
