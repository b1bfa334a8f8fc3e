/- FnSuggested: suggestions in two columns are what the reference says. -/
import Derived.Test.YtalkikljjffpmaaSgL
import Derived.Test.YtalkikljjffpmaaSgi
import Derived.Test.YtalkikljjffpmaaSpecSg
import Derived.Deep.QuietTactic
import Derived.IntWalk
import Derived.BigQuiet
namespace Go.Proofs.Ytalkikljjffpmaa
open Go.RowKit
set_option linter.unusedVariables false
set_option linter.unusedSimpArgs false
set_option linter.unnecessarySimpa false
set_option maxRecDepth 100000

theorem prB_len {l : Bs} (h : prB l = true) : l.length ≤ 1000 := by
  unfold prB at h
  rw [Bool.and_eq_true] at h
  exact of_decide_eq_true h.2
/-- What is asked of one suggestion. -/
def okP (p : Bs × Bs) : Prop := prT p.1 ∧ prT p.2 ∧ p.1.length ≤ 100 ∧ p.2.length ≤ 100
set_option maxHeartbeats 4000000 in
theorem lawSuggested_any (v : Value) (L : List (Bs × Bs)) (m : Int) (w : World) (h : Picks w v L) (hm : (Lit.int .i64 m).wf = true) :
    Calls Try.prog 3 #[v, .int .i64 m] w fun e w' => e = .returned (.bool true) ∧ Below w.heap.size w w' := by
  have HT := Lib.hid h
  have H5 := Lib.hid h.2
  obtain ⟨⟨ad, c, rfl, h2, h3, -⟩, -⟩ := h
  unfold maxLen at h3
  clear hm
  cases hf : fit3 L with
  | false =>
    have HF := Lib.hid hf
    clear hf
    go_enter Try.func3, Try.ntmps3
    go_wp2_with (go_at_call 4; refine (fits3_any _ L w HT.out).mono ?_; rw [HF.out]; rintro e w1 ⟨rfl, o1⟩; have O1 := Lib.hid o1; clear o1)
    go_ret
    exact ⟨rfl, O1.out⟩
  | true =>
    have HF := Lib.hid hf
    clear hf
    by_cases hg : L.length ≤ 12 ∧ 0 ≤ m ∧ m ≤ 100
    · obtain ⟨hl, hm1, hm2⟩ := hg
      go_enter Try.func3, Try.ntmps3
      go_wp2_with (go_at_call 4; refine (fits3_any _ L w HT.out).mono ?_; rw [HF.out]; rintro e w1 ⟨rfl, o1⟩; have O1 := Lib.hid o1; clear o1)
      go_loopw [5] (fun i wr => ∃ k : Nat, k ≤ L.length ∧ i = .int .i64 k ∧ Old w wr ∧ ∀ j (hj : j < L.length), j < k → okP L[j]) (fun i _ => L.length - (intOf i).toNat)
      case atStart => exact ⟨0, Nat.zero_le _, rfl, O1.out, fun j hj h => absurd h (by omega)⟩
      case round =>
        obtain ⟨k, hk, rfl, hold, hall⟩ := hrel
        have OO := Lib.hid hold
        have T1 := Lib.hid (HT.out.old hold)
        clear hold
        have AL := Lib.hid hall
        clear hall
        by_cases hlt : k < L.length
        · obtain ⟨b, o, rfl, hb, c1, c2⟩ := T1.out.1.at2 hlt
          have hsz := H5.out _ (List.getElem_mem hlt)
          have OKK : Hid (okP L[k] ↔ okP (L[k].1, L[k].2)) := Iff.rfl
          obtain ⟨x, hx⟩ : ∃ x, x = L[k].1 := ⟨_, rfl⟩
          obtain ⟨y, hy⟩ : ∃ y, y = L[k].2 := ⟨_, rfl⟩
          rw [← hx] at c1 hsz OKK
          rw [← hy] at c2 hsz OKK
          clear hx hy
          have d1 : ∀ m, (wr.drewN m).cell? ⟨b, o + k * 2, none⟩ = some (.string (tx x)) := fun m => c1
          have d2 : ∀ m, (wr.drewN m).cell? ⟨b, o + k * 2 + 1, none⟩ = some (.string (tx y)) := fun m => c2
          have i0 : (0 : Int) ≤ k := by omega
          have i1 : (k : Int) < L.length := by omega
          have PX := fun w => prn_any x w hsz.1
          have PY := fun w => prn_any y w hsz.2
          have sx : (tx x).size = x.length := tx_size x
          have sy : (tx y).size = y.length := tx_size y
          obtain ⟨hz1, hz2⟩ := hsz
          unfold maxLen at hz1 hz2
          clear c1 c2
          cases px : prB x with
          | false =>
            rw [px] at PX
            have PX' := Lib.hid PX
            have PY' := Lib.hid PY
            clear PX PY px
            go_wp2_with fail
            go_quiet (first | (go_at_call 5; with_reducible refine Calls.quiet_of_same (PX'.out _)) | (go_at_call 5; with_reducible refine Calls.quiet_of_same (PY'.out _)))
            go_wp2_with fail
            go_ret
            exact ⟨rfl, OO.out.trans (Old.drewN _ _)⟩
          | true =>
            rw [px] at PX
            have PX' := Lib.hid PX
            have HPX := Lib.hid px
            clear PX px
            cases py : prB y with
            | false =>
              rw [py] at PY
              have PY' := Lib.hid PY
              clear PY py
              go_wp2_with fail
              go_quiet (first | (go_at_call 5; with_reducible refine Calls.quiet_of_same (PX'.out _)) | (go_at_call 5; with_reducible refine Calls.quiet_of_same (PY'.out _)))
              go_wp2_with fail
              go_ret
              exact ⟨rfl, OO.out.trans (Old.drewN _ _)⟩
            | true =>
              rw [py] at PY
              have PY' := Lib.hid PY
              have HPY := Lib.hid py
              clear PY py
              have j1 : IntKind.i64.wrap ((x.length : Int) + (y.length : Int)) = (x.length : Int) + (y.length : Int) := IntWalk.i64_in _ (by have := prB_len HPX.out; have := prB_len HPY.out; omega)
              by_cases hs : x.length + y.length ≤ 100
              · have d100 : decide ((x.length : Int) + (y.length : Int) > 100) = false := by simp; omega
                have d101 : decide (100 < (x.length : Int) + (y.length : Int)) = false := by simp; omega
                go_wp2_with fail
                go_quiet (first | (go_at_call 5; with_reducible refine Calls.quiet_of_same (PX'.out _)) | (go_at_call 5; with_reducible refine Calls.quiet_of_same (PY'.out _)))
                clear j1
                go_wp2_with fail
                go_roundw
                case rel =>
                  refine ⟨k + 1, by omega, by go_num, OO.out.trans (Old.drewN _ _), fun j hj hjk => ?_⟩
                  by_cases e : j = k
                  · subst e; exact OKK.out.2 ⟨prB_prT HPX.out, prB_prT HPY.out, by simp only; omega, by simp only; omega⟩
                  · exact AL.out j hj (by omega)
                case measure => simp [intOf]; omega
              · have d100 : decide ((x.length : Int) + (y.length : Int) > 100) = true := by simp; omega
                have d101 : decide (100 < (x.length : Int) + (y.length : Int)) = true := by simp; omega
                go_wp2_with fail
                go_quiet (first | (go_at_call 5; with_reducible refine Calls.quiet_of_same (PX'.out _)) | (go_at_call 5; with_reducible refine Calls.quiet_of_same (PY'.out _)))
                clear j1
                go_wp2_with fail
                go_ret
                exact ⟨rfl, OO.out.trans (Old.drewN _ _)⟩
        · have hkn' : k = L.length := by omega
          subst hkn'
          have OK : Hid (∀ p ∈ L, prT p.1 ∧ prT p.2 ∧ p.1.length ≤ 100 ∧ p.2.length ≤ 100) := fun p hp => by
            obtain ⟨j, hj, rfl⟩ := List.getElem_of_mem hp
            exact AL.out j hj hj
          go_wp2_with (first
            | (go_at_call 6; refine (ssg_any _ L m _ T1.out.1 OK.out (by omega) hm1 (by omega)).mono ?_; rintro e w2 ⟨v2, rfl, o2, r2⟩; have R2 := Lib.hid r2; have V2 := Lib.hid o2; have O3 := Lib.hid (OO.out.trans o2); clear r2 o2)
            | (go_at_call 7; refine (sgd_any _ L m _ (T1.out.1.old V2.out) OK.out (by omega) hm1 (by omega)).mono ?_; rintro e w3 ⟨v3, rfl, o3, r3⟩; have R3 := Lib.hid r3; have R23 := Lib.hid (R2.out.old o3); have O4 := Lib.hid (O3.out.trans o3); clear r3 o3)
            | (go_at_call 8; refine (samep_any _ _ _ _ R3.out R23.out).mono ?_; rintro e w4 ⟨rfl, n4, rfl⟩))
          go_ret
          exact ⟨rfl, O4.out.trans (Old.drewN _ _)⟩
    · by_cases h12 : L.length ≤ 12
      · by_cases hm0 : 0 ≤ m
        · have hm1 : 100 < m := by omega
          have dl : decide (m < 0) = false := by simp; omega
          have dh : decide (m > 100) = true := by simp; omega
          go_enter Try.func3, Try.ntmps3
          go_wp2_with (go_at_call 4; refine (fits3_any _ L w HT.out).mono ?_; rw [HF.out]; rintro e w1 ⟨rfl, o1⟩; have O1 := Lib.hid o1; clear o1)
          go_ret
          exact ⟨rfl, O1.out⟩
        · have dl : decide (m < 0) = true := by simp; omega
          have hm1 : m < 0 := by omega
          go_enter Try.func3, Try.ntmps3
          go_wp2_with (go_at_call 4; refine (fits3_any _ L w HT.out).mono ?_; rw [HF.out]; rintro e w1 ⟨rfl, o1⟩; have O1 := Lib.hid o1; clear o1)
          go_ret
          exact ⟨rfl, O1.out⟩
      · have h13 : 12 < L.length := by omega
        go_enter Try.func3, Try.ntmps3
        go_wp2_with (go_at_call 4; refine (fits3_any _ L w HT.out).mono ?_; rw [HF.out]; rintro e w1 ⟨rfl, o1⟩; have O1 := Lib.hid o1; clear o1)
        go_ret
        exact ⟨rfl, O1.out⟩
end Go.Proofs.Ytalkikljjffpmaa
