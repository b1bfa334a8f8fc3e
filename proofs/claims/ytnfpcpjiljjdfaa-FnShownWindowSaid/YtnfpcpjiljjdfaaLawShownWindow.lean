/- FnShownWindow: the walk (the statement is told in the row). -/
import Derived.Test.YtnfpcpjiljjdfaaCM3
namespace Go.Proofs.Ytnfpcpjiljjdfaa
open Go.RowKit
set_option linter.unusedVariables false
set_option linter.unusedSimpArgs false
set_option linter.unnecessarySimpa false
set_option maxRecDepth 100000

/-- A slice of integers, cut at the end. -/
theorem Ints.take {w : World} {k : IntKind} {ad : Option Addr} {c : Nat} {l : List Int} (h : Ints w k (.slice ad l.length c) l) (q : Nat) (hq : q ≤ l.length) : Ints w k (.slice ad q c) (l.take q) := by
  obtain ⟨ad', c', e, h2, h3, h4, h5⟩ := h
  injection e with e1 e2 e3
  subst e1 e3
  have hl : (l.take q).length = q := by simp; omega
  refine ⟨ad, c, by rw [hl], by omega, h3, fun j hj => ?_, fun x hx => h5 x (List.mem_of_mem_take hx)⟩
  obtain ⟨b, o, e, hc⟩ := h4 j (by omega)
  exact ⟨b, o, e, by rw [gi_take (by omega)]; exact hc⟩

theorem u8_small {x : Int} (h : (Lit.int .u8 x).wf = true) : 0 ≤ x ∧ x ≤ 255 := by
  have h2 := h
  simp [Lit.wf, IntKind.min, IntKind.max, IntKind.signed, IntKind.bits] at h2
  omega

theorem csAll_last {n m : Int} {l : List Int} (h : 0 < l.length) : csAll n m l = csStep n m (csAll n m (l.take (l.length - 1))) (gi l (l.length - 1)) := by
  have := csAll_take (n := n) (m := m) (show l.length - 1 < l.length by omega)
  rw [show l.length - 1 + 1 = l.length by omega, List.take_length] at this
  exact this

/-- Every number is 1 or 2. -/
def stepsTo (l : List Int) (k : Nat) : Prop := ∀ j, j < k → 1 ≤ gi l j ∧ gi l j ≤ 2

/-- What the law asks of the two windows. -/
theorem window_fits {N M : Nat} {l : List Int} (hM : 1 ≤ M) (hNM : M < N) (hl : 0 < l.length) (hs : stepsTo l l.length) :
    (0 ≤ (csAll N M (l.take (l.length - 1))).2 ∧ 0 ≤ (csAll N M l).2 ∧ (csAll N M (l.take (l.length - 1))).2 ≤ (N : Int) - M ∧ (csAll N M l).2 ≤ (N : Int) - M ∧
      -1 ≤ (csAll N M (l.take (l.length - 1))).1 ∧ -1 ≤ (csAll N M l).1 ∧ (csAll N M (l.take (l.length - 1))).1 ≤ N ∧ (csAll N M l).1 ≤ N) ∧
      ((0 ≤ (csAll N M (l.take (l.length - 1))).1 ∧ 0 ≤ (csAll N M l).1) →
        ((csAll N M l).1 - (csAll N M (l.take (l.length - 1))).1 = 1 ∧ ((csAll N M l).2 = (csAll N M (l.take (l.length - 1))).2 ∨ (csAll N M l).2 = (csAll N M (l.take (l.length - 1))).2 + 1)) ∨
        ((csAll N M (l.take (l.length - 1))).1 - (csAll N M l).1 = 1 ∧ ((csAll N M l).2 = (csAll N M (l.take (l.length - 1))).2 ∨ (csAll N M l).2 = (csAll N M (l.take (l.length - 1))).2 - 1))) := by
  have h1 := csAll_ok (n := (N : Int)) (m := (M : Int)) (by omega) (by omega) (l.take (l.length - 1))
  have h2 := csAll_ok (n := (N : Int)) (m := (M : Int)) (by omega) (by omega) l
  have h3 := csAll_last (n := (N : Int)) (m := (M : Int)) hl
  obtain ⟨g1, g2⟩ := hs (l.length - 1) (by omega)
  have h4 := window_step (n := (N : Int)) (m := (M : Int)) (by omega) (by omega) h1 g1 g2
  rw [← h3] at h4
  refine ⟨?_, h4⟩
  unfold csOk at h1 h2
  omega

theorem sw_guard (a b : Int) (v : Value) (l : List Int) (w : World) (hv : Ints w .u8 v l) (ha : (Lit.int .u8 a).wf = true) (hb : (Lit.int .u8 b).wf = true) (h : ¬ (0 < l.length ∧ l.length ≤ 40)) :
    Calls Try.prog 4 #[.int .u8 a, .int .u8 b, v] w fun e w' => e = .returned (.bool true) ∧ Old w w' := by
  obtain ⟨ad, c, rfl, hc1, hc2, hcell, hwf⟩ := hv
  have H := Lib.hid h
  clear h hcell hwf
  have a1 := u8_small ha
  have b1 := u8_small hb
  unfold maxLen at hc2
  go_enter Try.func4, Try.ntmps4
  by_cases h1 : 2147483647 < l.length
  · go_wp2_with fail
    go_ret
    exact ⟨rfl, Old.refl _⟩
  by_cases h2 : l.length = 0
  · rw [h2]
    go_wp2_with fail
    go_ret
    exact ⟨rfl, Old.refl _⟩
  by_cases h3 : 40 < l.length
  · have h4 : ((l.length : Int) == 0) = false := by rw [beq_eq_false_iff_ne]; omega
    go_wp2_with fail
    go_ret
    exact ⟨rfl, Old.refl _⟩
  exact absurd ⟨by omega, by omega⟩ H.out

set_option maxHeartbeats 1000000 in
theorem sw_walk (a b : Nat) (v : Value) (l : List Int) (w : World) (hv : Ints w .u8 v l) (ha : a ≤ 255) (hb : b ≤ 255) (hl : 0 < l.length) (hl2 : l.length ≤ 40) :
    Calls Try.prog 4 #[.int .u8 a, .int .u8 b, v] w fun e w' => e = .returned (.bool true) ∧ Old w w' := by
  have HV := Lib.hid hv
  obtain ⟨ad, c, rfl, hc1, hc2, hcell, hwf⟩ := hv
  have HC := Lib.hid hcell
  obtain ⟨b0, o0, rfl, _⟩ := hcell 0 hl
  have HCC : Hid (∀ j, j < l.length → w.cell? ⟨b0, o0 + j, none⟩ = some (.int .u8 (gi l j))) := fun j hj => by
    obtain ⟨b', o', e, hc⟩ := HC.out j hj
    injection e with e; injection e with e1 e2; subst e1 e2
    exact hc
  unfold maxLen at hc2
  clear hcell hwf
  have h0 : ((l.length : Int) == 0) = false := by rw [beq_eq_false_iff_ne]; omega
  go_enter Try.func4, Try.ntmps4
  go_wp2_with fail
  have eM : (b : Int) % 10 + 1 = ((b % 10 + 1 : Nat) : Int) := by omega
  rw [eM]
  obtain ⟨M, hM⟩ : ∃ M, M = b % 10 + 1 := ⟨_, rfl⟩
  rw [← hM]
  have eN : (M : Int) + 1 + (a : Int) % 20 = ((M + 1 + a % 20 : Nat) : Int) := by omega
  rw [eN]
  obtain ⟨N, hN⟩ : ∃ N, N = M + 1 + a % 20 := ⟨_, rfl⟩
  rw [← hN]
  have hM1 : 1 ≤ M := by omega
  have hM2 : M ≤ 10 := by omega
  have hNM : M < N := by omega
  have hN2 : N ≤ 31 := by omega
  clear eM eN hM hN
  go_loopw [9] (fun i wr => ∃ k : Nat, k ≤ l.length ∧ i = .int .i64 k ∧ stepsTo l k ∧ wr = w) (fun i _ => l.length - (intOf i).toNat)
  case atStart => exact ⟨0, Nat.zero_le _, rfl, fun j hj => absurd hj (by omega), rfl⟩
  case round =>
    obtain ⟨k, hk, rfl, hst, rfl⟩ := hrel
    have ST := Lib.hid hst
    clear hst
    by_cases hkm : k < l.length
    · have hck := HCC.out k hkm
      by_cases g1 : gi l k < 1
      · go_wp2_with fail
        go_ret
        exact ⟨rfl, Old.refl _⟩
      by_cases g2 : 2 < gi l k
      · go_wp2_with fail
        go_ret
        exact ⟨rfl, Old.refl _⟩
      go_wp2_with fail
      go_roundw
      case rel => exact ⟨k + 1, by omega, by go_num, fun j hj => by
        by_cases e : j = k
        · subst e; omega
        · exact ST.out j (by omega), by first | rfl | trivial⟩
      case measure => simp [intOf]; omega
    · have hkm' : k = l.length := by omega
      subst hkm'
      have F := Lib.hid (window_fits hM1 hNM hl ST.out)
      have hq : ¬ c = 0 := by omega
      have q1 : 0 ≤ (l.length : Int) - 1 := by omega
      have q2 : (l.length : Int) - 1 ≤ c := by omega
      have q3 : ((l.length : Int) - 1).toNat = l.length - 1 := by omega
      have hl1 : (l.take (l.length - 1)).length = l.length - 1 := by simp
      have HT := Lib.hid (HV.out.take (l.length - 1) (by omega))
      have HL1 := Lib.hid hl1
      clear hl1
      have mk : Hid True := trivial
      go_wp2_with (first
        | (go_at_call 13; have mk2 := mk; clear mk mk2; refine (shown_any N M _ (l.take (l.length - 1)) wr HT.out (by have := HL1.out; omega) (by omega) hM1 (by omega)).mono ?_; rintro e w2 ⟨rfl, o2⟩; have O2 := Lib.hid o2; clear o2)
        | (go_at_call 13; refine (shown_any N M _ l w2 (HV.out.old O2.out) (by omega) (by omega) hM1 (by omega)).mono ?_; rintro e w3 ⟨rfl, o3⟩
           have O3 := Lib.hid (O2.out.trans o3)
           clear o3
           have F' := F.out
           clear F
           generalize csAll N M (l.take (l.length - 1)) = s at F' ⊢
           generalize csAll N M l = t at F' ⊢
           obtain ⟨s1, s2⟩ := s
           obtain ⟨t1, t2⟩ := t
           obtain ⟨⟨f1, f2, f3, f4, f5, f6, f8, f9⟩, f7⟩ := F'
           simp only at f1 f2 f3 f4 f5 f6 f7 f8 f9
           have F7 := Lib.hid f7
           clear f7))
      all_goals
        go_ret
        refine ⟨ret_bool ?_, O3.out⟩
        have f7 := F7.out
        first
        | rfl
        | (symm; simp only [Bool.or_eq_true, beq_iff_eq]; omega)
        | (symm; simp only [beq_eq_false_iff_ne, ne_eq, beq_iff_eq] at *; simp only [Bool.or_eq_true, beq_iff_eq]; omega)
        | (exfalso; simp only [beq_eq_false_iff_ne, ne_eq, beq_iff_eq] at *; omega)

theorem law_window (a b : Int) (v : Value) (l : List Int) (w : World) (ha : (Lit.int .u8 a).wf = true) (hb : (Lit.int .u8 b).wf = true) (hv : Ints w .u8 v l) :
    Calls Try.prog 4 #[.int .u8 a, .int .u8 b, v] w fun e w' => e = .returned (.bool true) ∧ Below w.heap.size w w' := by
  by_cases h : 0 < l.length ∧ l.length ≤ 40
  · have a1 := u8_small ha
    have b1 := u8_small hb
    obtain ⟨x, rfl⟩ := Int.eq_ofNat_of_zero_le a1.1
    obtain ⟨y, rfl⟩ := Int.eq_ofNat_of_zero_le b1.1
    exact sw_walk x y v l w hv (by omega) (by omega) h.1 h.2
  · exact sw_guard a b v l w hv ha hb h
end Go.Proofs.Ytnfpcpjiljjdfaa
