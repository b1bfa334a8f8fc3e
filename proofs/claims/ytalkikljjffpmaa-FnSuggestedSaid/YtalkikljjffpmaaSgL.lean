/- The parts of the law FnSuggested: laws.zzFits3, zzFits4, samePicks7, spec.Printable. -/
import Derived.Test.YtalkikljjffpmaaPicksArg
import Derived.Test.YtalkikljjffpmaaSpecF
import Derived.Test.YtalkikljjffpmaaWid
namespace Go.Proofs.Ytalkikljjffpmaa
open Go.RowKit
set_option linter.unusedVariables false
set_option linter.unusedSimpArgs false
set_option linter.unnecessarySimpa false
set_option maxRecDepth 100000

theorem PR.at2 {w : World} {ad : Option Addr} {n c : Nat} {L : List (Bs × Bs)} (h : PR w (.slice ad n c) L) {j : Nat} (hj : j < L.length) : ∃ b o, ad = some ⟨b, o, none⟩ ∧ b < w.heap.size ∧ w.cell? ⟨b, o + j * 2, none⟩ = some (.string (tx L[j].1)) ∧ w.cell? ⟨b, o + j * 2 + 1, none⟩ = some (.string (tx L[j].2)) := by
  obtain ⟨ad', c', e0, -, -, h3⟩ := h
  injection e0 with e1 e2 e3
  subst e1
  exact h3 j hj
def fit4 (p : Bs × Bs) : Bool := decide (p.1.length ≤ 2147483647 ∧ p.2.length ≤ 2147483647)
theorem fits4_any (p : Bs × Bs) (w : World) (h1 : p.1.length ≤ maxLen) (h2 : p.2.length ≤ maxLen) : Calls Try.prog 9 #[.agg #[.string (tx p.1), .string (tx p.2)]] w fun e w' => e = .returned (.bool (fit4 p)) ∧ Old w w' := by
  unfold maxLen at h1 h2
  obtain ⟨x, hx⟩ : ∃ x, x = p.1 := ⟨_, rfl⟩
  obtain ⟨y, hy⟩ : ∃ y, y = p.2 := ⟨_, rfl⟩
  have R : Hid (fit4 p = decide (x.length ≤ 2147483647 ∧ y.length ≤ 2147483647)) := by unfold Hid fit4; rw [hx, hy]
  rw [← hx] at h1 ⊢
  rw [← hy] at h2 ⊢
  have sx : (tx x).size = x.length := tx_size x
  have sy : (tx y).size = y.length := tx_size y
  clear hx hy
  by_cases a1 : x.length ≤ 2147483647
  · by_cases a2 : y.length ≤ 2147483647
    · have R2 : Hid (fit4 p = true) := R.out.trans (decide_eq_true ⟨a1, a2⟩)
      go_enter Try.func9, Try.ntmps9
      go_wp2_with fail
      go_ret
      exact ⟨ret_bool R2.out, Old.alloc _ _⟩
    · have R2 : Hid (fit4 p = false) := R.out.trans (decide_eq_false fun h => a2 h.2)
      go_enter Try.func9, Try.ntmps9
      go_wp2_with fail
      go_ret
      exact ⟨ret_bool R2.out, Old.alloc _ _⟩
  · have R2 : Hid (fit4 p = false) := R.out.trans (decide_eq_false fun h => a1 h.1)
    go_enter Try.func9, Try.ntmps9
    go_wp2_with fail
    go_ret
    exact ⟨ret_bool R2.out, Old.alloc _ _⟩
def fit3 (L : List (Bs × Bs)) : Bool := decide (L.length ≤ 2147483647) && L.all fit4
theorem fit3_len {L : List (Bs × Bs)} (h : ¬ L.length ≤ 2147483647) : fit3 L = false := by unfold fit3; simp [h]
theorem fit3_at {L : List (Bs × Bs)} {j : Nat} (hj : j < L.length) (h : fit4 L[j] = false) : fit3 L = false := by
  unfold fit3
  rw [Bool.and_eq_false_iff]; right
  rw [List.all_eq_false]
  exact ⟨_, List.getElem_mem hj, by simp [h]⟩
theorem fit3_all {L : List (Bs × Bs)} (h : L.length ≤ 2147483647) (k : ∀ j (hj : j < L.length), fit4 L[j] = true) : fit3 L = true := by
  unfold fit3
  rw [Bool.and_eq_true]
  refine ⟨decide_eq_true h, List.all_eq_true.2 fun p hp => ?_⟩
  obtain ⟨j, hj, rfl⟩ := List.getElem_of_mem hp
  exact k j hj
theorem fits3_any (v : Value) (L : List (Bs × Bs)) (w : World) (h : Picks w v L) : Calls Try.prog 4 #[v] w fun e w' => e = .returned (.bool (fit3 L)) ∧ Old w w' := by
  have HR := Lib.hid h.1
  have H5 := Lib.hid h.2
  obtain ⟨⟨ad, c, rfl, h2, h3, -⟩, -⟩ := h
  unfold maxLen at h3
  by_cases hl : L.length ≤ 2147483647
  · go_enter Try.func4, Try.ntmps4
    go_wp2_with fail
    go_loopw [10] (fun i wr => ∃ k : Nat, k ≤ L.length ∧ i = .int .i64 k ∧ Old w wr ∧ ∀ j (hj : j < L.length), j < k → fit4 L[j] = true) (fun i _ => L.length - (intOf i).toNat)
    case atStart => exact ⟨0, Nat.zero_le _, rfl, Old.refl _, fun j hj h => absurd h (by omega)⟩
    case round =>
      obtain ⟨k, hk, rfl, ho, hall⟩ := hrel
      have OO := Lib.hid ho
      have AL := Lib.hid hall
      clear ho hall
      by_cases hlt : k < L.length
      · obtain ⟨b, o, rfl, hb, c1, c2⟩ := (HR.out.old OO.out).at2 hlt
        have hsz := H5.out _ (List.getElem_mem hlt)
        have FA := fun w => fits4_any L[k] w hsz.1 hsz.2
        have i0 : (0 : Int) ≤ k := by omega
        have i1 : (k : Int) < L.length := by omega
        cases hf : fit4 L[k] with
        | false =>
          have R : Hid (fit3 L = false) := fit3_at hlt hf
          rw [hf] at FA
          have FA' := Lib.hid FA
          generalize L[k].1 = x at c1 FA'
          generalize L[k].2 = y at c2 FA'
          clear FA hf hsz hb
          go_wp2_with (go_at_call 9; refine (FA'.out _).mono ?_; rintro e w2 ⟨rfl, o2⟩; have O2 := Lib.hid (OO.out.trans ((Old.alloc _ _).trans o2)); clear o2)
          go_ret
          exact ⟨ret_bool R.out, O2.out⟩
        | true =>
          have HF := Lib.hid hf
          rw [hf] at FA
          have FA' := Lib.hid FA
          clear FA hf hsz hb
          generalize L[k].1 = x at c1 FA'
          generalize L[k].2 = y at c2 FA'
          go_wp2_with (go_at_call 9; refine (FA'.out _).mono ?_; rintro e w2 ⟨rfl, o2⟩; have O2 := Lib.hid (OO.out.trans ((Old.alloc _ _).trans o2)); clear o2)
          go_roundw
          case rel =>
            refine ⟨k + 1, by omega, by go_num, O2.out, fun j hj hjk => ?_⟩
            by_cases e : j = k
            · subst e; exact HF.out
            · exact AL.out j hj (by omega)
          case measure => simp [intOf]; omega
      · have hkn' : k = L.length := by omega
        subst hkn'
        have R : Hid (fit3 L = true) := fit3_all hl fun j hj => AL.out j hj hj
        go_wp2_with fail
        go_ret
        exact ⟨ret_bool R.out, OO.out⟩
  · have R : Hid (fit3 L = false) := fit3_len hl
    go_enter Try.func4, Try.ntmps4
    go_wp2_with fail
    go_ret
    exact ⟨ret_bool R.out, Old.refl _⟩
theorem samep_any (v u : Value) (L : List (Bs × Bs)) (w : World) (h : PR w v L) (k : PR w u L) : Calls Try.prog 8 #[v, u] w fun e w' => e = .returned (.bool true) ∧ ∃ n, w' = w.drewN n := by
  have H := Lib.hid h
  have K := Lib.hid k
  obtain ⟨ad, c, rfl, h2, h3, -⟩ := h
  obtain ⟨bd, d, rfl, k2, k3, -⟩ := k
  unfold maxLen at h3 k3
  go_enter Try.func8, Try.ntmps8
  go_wp2_with fail
  go_loopw [5] (fun i wr => ∃ k n : Nat, k ≤ L.length ∧ i = .int .i64 k ∧ wr = w.drewN n) (fun i _ => L.length - (intOf i).toNat)
  case atStart => exact ⟨0, 0, Nat.zero_le _, rfl, rfl⟩
  case round =>
    obtain ⟨k, n, hk, rfl, rfl⟩ := hrel
    by_cases hlt : k < L.length
    · obtain ⟨b, o, rfl, hb, c1, c2⟩ := H.out.at2 hlt
      obtain ⟨b', o', rfl, hb', c1', c2'⟩ := K.out.at2 hlt
      generalize L[k].1 = x at c1 c1'
      generalize L[k].2 = y at c2 c2'
      have d1 : ∀ m, (w.drewN m).cell? ⟨b, o + k * 2, none⟩ = some (.string (tx x)) := fun m => c1
      have d2 : ∀ m, (w.drewN m).cell? ⟨b, o + k * 2 + 1, none⟩ = some (.string (tx y)) := fun m => c2
      have d3 : ∀ m, (w.drewN m).cell? ⟨b', o' + k * 2, none⟩ = some (.string (tx x)) := fun m => c1'
      have d4 : ∀ m, (w.drewN m).cell? ⟨b', o' + k * 2 + 1, none⟩ = some (.string (tx y)) := fun m => c2'
      have i0 : (0 : Int) ≤ k := by omega
      have i1 : (k : Int) < L.length := by omega
      clear c1 c2 c1' c2'
      go_wp2_with fail
      go_quiet (fail)
      go_wp2_with fail
      go_roundw
      case rel => exact ⟨k + 1, n + nq, by omega, by go_num, rfl⟩
      case measure => simp [intOf]; omega
    · have hkn' : k = L.length := by omega
      subst hkn'
      go_wp2_with fail
      go_ret
      exact ⟨rfl, n, rfl⟩
/-- Printable ASCII of at most 1000 bytes. -/
def prB (l : Bs) : Bool := l.all (fun c => decide (32 ≤ c.toNat ∧ c.toNat ≤ 126)) && decide (l.length ≤ 1000)
theorem prB_prT {l : Bs} (h : prB l = true) : prT l := by
  unfold prB at h
  rw [Bool.and_eq_true] at h
  exact ⟨fun c hc => of_decide_eq_true (List.all_eq_true.1 h.1 c hc), by have := of_decide_eq_true h.2; omega⟩
theorem prB_at {l : Bs} {k : Nat} (hk : k < l.length) (h : ¬ (32 ≤ l[k].toNat ∧ l[k].toNat ≤ 126)) : prB l = false := by
  unfold prB
  rw [Bool.and_eq_false_iff]; left
  rw [List.all_eq_false]
  exact ⟨_, List.getElem_mem hk, by simpa using h⟩
theorem prB_all {l : Bs} (h : ∀ k (hk : k < l.length), 32 ≤ l[k].toNat ∧ l[k].toNat ≤ 126) : prB l = decide (l.length ≤ 1000) := by
  unfold prB
  have : l.all (fun c => decide (32 ≤ c.toNat ∧ c.toNat ≤ 126)) = true := List.all_eq_true.2 fun c hc => by
    obtain ⟨j, hj, rfl⟩ := List.getElem_of_mem hc
    exact decide_eq_true (h j hj)
  rw [this, Bool.true_and]
theorem prn_any (l : Bs) (w : World) (hl : l.length ≤ maxLen) : Calls Try.prog 5 #[.string (tx l)] w fun e w' => e = .returned (.bool (prB l)) ∧ w' = w := by
  unfold maxLen at hl
  have hs : (tx l).size = l.length := tx_size l
  go_enter Try.func5, Try.ntmps5
  go_wp2
  go_loop [3] (fun i => ∃ k : Nat, k ≤ l.length ∧ i = .int .i64 k ∧ ∀ j (hj : j < l.length), j < k → 32 ≤ l[j].toNat ∧ l[j].toNat ≤ 126) (fun i => l.length - (intOf i).toNat)
  case atStart => exact ⟨0, Nat.zero_le _, rfl, fun j hj h => absurd h (by omega)⟩
  case round =>
    obtain ⟨q, hk, rfl, hall⟩ := hrel
    have AL := Lib.hid hall
    clear hall
    by_cases hq : q < l.length
    · have hg := get_tx hq (by omega)
      by_cases hc : 32 ≤ l[q].toNat ∧ l[q].toNat ≤ 126
      · have hc' := hc
        have e1 : decide ((((tx l)[q]'(by omega)).toNat : Int) < 32) = false := by rw [hg]; simp; omega
        have e2 : decide ((((tx l)[q]'(by omega)).toNat : Int) > 126) = false := by rw [hg]; simp; omega
        have HC := Lib.hid hc
        clear hc hg
        go_wp2_with fail
        go_round
        case rel =>
          refine ⟨q + 1, by omega, by go_num, fun j hj h => ?_⟩
          by_cases e : j = q
          · subst e; exact HC.out
          · exact AL.out j hj (by omega)
        case measure => simp [intOf]; omega
      · have R := Lib.hid (prB_at hq hc)
        by_cases h1 : l[q].toNat < 32
        · have e1 : decide ((((tx l)[q]'(by omega)).toNat : Int) < 32) = true := by rw [hg]; simp; omega
          clear hc hg h1
          go_wp2_with fail
          go_ret
          exact ⟨ret_bool R.out, rfl⟩
        · have h2 : 126 < l[q].toNat := by omega
          have e1 : decide ((((tx l)[q]'(by omega)).toNat : Int) < 32) = false := by rw [hg]; simp; omega
          have e2 : decide ((((tx l)[q]'(by omega)).toNat : Int) > 126) = true := by rw [hg]; simp; omega
          clear hc hg h1 h2
          go_wp2_with fail
          go_ret
          exact ⟨ret_bool R.out, rfl⟩
    · obtain rfl : q = l.length := by omega
      have R : Hid (prB l = decide (l.length ≤ 1000)) := prB_all fun k hk => AL.out k hk hk
      go_wp2_with fail
      go_ret
      exact ⟨ret_bool (by rw [R.out]; exact decide_eq_decide.2 (by omega)), rfl⟩
end Go.Proofs.Ytalkikljjffpmaa
