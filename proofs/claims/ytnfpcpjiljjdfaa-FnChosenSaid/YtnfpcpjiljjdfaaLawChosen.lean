/- FnChosen: the walk (the statement is told in the row). -/
import Derived.Test.YtnfpcpjiljjdfaaCM3
namespace Go.Proofs.Ytnfpcpjiljjdfaa
open Go.RowKit
set_option linter.unusedVariables false
set_option linter.unusedSimpArgs false
set_option linter.unnecessarySimpa false
set_option maxRecDepth 100000

theorem ch_guard (n m : Int) (v : Value) (l : List Int) (w : World) (hv : Ints w .u8 v l) (h : ¬ (0 ≤ n ∧ n ≤ 40 ∧ 1 ≤ m ∧ m ≤ 20 ∧ l.length ≤ 60)) :
    Calls Try.prog 5 #[.int .i64 n, .int .i64 m, v] w fun e w' => e = .returned (.bool true) ∧ Old w w' := by
  obtain ⟨ad, c, rfl, hc1, hc2, hcell, hwf⟩ := hv
  have H := Lib.hid h
  clear h hcell hwf
  unfold maxLen at hc2
  go_enter Try.func5, Try.ntmps5
  by_cases h1 : 2147483647 < l.length
  · go_wp2_with fail
    go_ret
    exact ⟨rfl, Old.refl _⟩
  by_cases h2 : n < 0
  · go_wp2_with fail
    go_ret
    exact ⟨rfl, Old.refl _⟩
  by_cases h3 : 40 < n
  · go_wp2_with fail
    go_ret
    exact ⟨rfl, Old.refl _⟩
  by_cases h4 : m < 1
  · go_wp2_with fail
    go_ret
    exact ⟨rfl, Old.refl _⟩
  by_cases h5 : 20 < m
  · go_wp2_with fail
    go_ret
    exact ⟨rfl, Old.refl _⟩
  by_cases h6 : 60 < l.length
  · go_wp2_with fail
    go_ret
    exact ⟨rfl, Old.refl _⟩
  exact absurd ⟨by omega, by omega, by omega, by omega, by omega⟩ H.out

set_option maxHeartbeats 1000000 in
theorem ch_nat (n m : Nat) (v : Value) (l : List Int) (w : World) (hv : Ints w .u8 v l) (hl : l.length ≤ 60) (hn : n ≤ 40) (hm1 : 1 ≤ m) (hm : m ≤ 20) :
    Calls Try.prog 5 #[.int .i64 n, .int .i64 m, v] w fun e w' => e = .returned (.bool true) ∧ Old w w' := by
  have HV := Lib.hid hv
  obtain ⟨ad, c, rfl, hc1, hc2, hcell, hwf⟩ := hv
  have HC := Lib.hid hcell
  unfold maxLen at hc2
  clear hcell hwf
  go_enter Try.func5, Try.ntmps5
  go_wp2_with (go_at_call 14; refine (chosen_any n m _ l w HV.out hl (by omega) hm1 (by omega)).mono ?_; rintro e w2 ⟨r, rfl, o2, hr⟩; obtain ⟨rb, rc, rfl, hrc⟩ := hr; have O2 := Lib.hid o2; have HR := Lib.hid hrc; clear o2 hrc)
  go_loopw [8, 9] (fun at_ i wr => ∃ k : Nat, k ≤ l.length ∧ i = .int .i64 k ∧ at_ = .int .i64 (csAll n m (l.take k)).1 ∧ wr = w2) (fun _ i _ => l.length - (intOf i).toNat)
  case atStart => exact ⟨0, Nat.zero_le _, rfl, rfl, rfl⟩
  case round =>
    obtain ⟨k, hk, rfl, rfl, rfl⟩ := hrel
    by_cases hkm : k < l.length
    · obtain ⟨b, o, rfl, hck⟩ := HC.out k hkm
      have hbl : b < w.heap.size := World.block_lt_of_cell? w _ hck
      have hcell := (O2.out.cell (o := o + k) hbl).trans hck
      obtain ⟨b2, rfl, hck2⟩ := HR.out k hkm
      clear hck
      have OKs := Lib.hid (csAll_ok (n := (n : Int)) (m := (m : Int)) (by omega) (by omega) (l.take k))
      have TK := Lib.hid (csAll_take (n := (n : Int)) (m := (m : Int)) hkm)
      by_cases g1 : gi l k < 1
      · go_wp2_with fail
        go_ret
        exact ⟨rfl, O2.out⟩
      by_cases g2 : 3 < gi l k
      · go_wp2_with fail
        go_ret
        exact ⟨rfl, O2.out⟩
      have E : gi (sels n m l l.length) k = choose1 (csAll n m (l.take k)).1 n (gi l k) := by
        rw [← choose1_is (m := (m : Int)) (by omega) (by omega) OKs.out (by omega) (by omega), ← TK.out]
        have hk2 : k < (sels n m l l.length).length := by rw [sels_len]; exact hkm
        rw [gi_lt hk2]
        simp [sels]
      have hb1 : -1 ≤ (csAll n m (l.take k)).1 ∧ (csAll n m (l.take k)).1 ≤ 1000 := by have := OKs.out; unfold csOk at this; omega
      obtain ⟨hb1, hb2⟩ := hb1
      have dq : (choose1 (csAll n m (l.take k)).1 n (gi l k) != choose1 (csAll n m (l.take k)).1 n (gi l k)) = false := by simp
      rw [E] at hck2
      have EN : Hid ((csAll n m (l.take (k + 1))).1 = choose1 (csAll n m (l.take k)).1 n (gi l k)) := by
        unfold Hid
        rw [TK.out]
        exact choose1_is (m := (m : Int)) (by omega) (by omega) OKs.out (by omega) (by omega)
      clear E
      go_wp2_with (go_at_call 15; refine (choose_spec _ n (gi l k) wr hb1 hb2 (by omega) (by omega)).mono ?_; rintro e w3 ⟨rfl, rfl⟩)
      go_roundw
      case rel => exact ⟨k + 1, by omega, by go_num, by rw [EN.out], by first | rfl | trivial⟩
      case measure => simp [intOf]; omega
    · go_wp2_with fail
      go_ret
      exact ⟨rfl, O2.out⟩

theorem law_chosen (n m : Int) (v : Value) (l : List Int) (w : World) (hn : (Lit.int .i64 n).wf = true) (hm : (Lit.int .i64 m).wf = true) (hv : Ints w .u8 v l) :
    Calls Try.prog 5 #[.int .i64 n, .int .i64 m, v] w fun e w' => e = .returned (.bool true) ∧ Below w.heap.size w w' := by
  by_cases h : 0 ≤ n ∧ n ≤ 40 ∧ 1 ≤ m ∧ m ≤ 20 ∧ l.length ≤ 60
  · obtain ⟨a, rfl⟩ := Int.eq_ofNat_of_zero_le h.1
    obtain ⟨b, rfl⟩ := Int.eq_ofNat_of_zero_le (show 0 ≤ m by omega)
    exact ch_nat a b v l w hv h.2.2.2.2 (by omega) (by omega) (by omega)
  · exact ch_guard n m v l w hv h
end Go.Proofs.Ytnfpcpjiljjdfaa
