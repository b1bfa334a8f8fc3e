/- FnTrimLeft: the walk (the statement is told in the row). -/
import Derived.Test.YthfjkaeenpbebaaDoorTrim
namespace Go.Proofs.YthfjkaeenpbebaaDoor
open Go.RowKit
set_option linter.unusedVariables false
set_option linter.unusedSimpArgs false
set_option linter.unnecessarySimpa false
set_option maxRecDepth 100000

theorem sub_size (s : ByteArray) {k : Nat} (h : k ≤ s.size) : (s.extract k s.size).size = s.size - k := by rw [ByteArray.size_extract]; omega
theorem sub_sub (s : ByteArray) {k : Nat} (h : k < s.size) : (s.extract k s.size).extract 1 (s.size - k) = s.extract (k + 1) s.size := by
  rw [ByteArray.extract_extract]
  congr 1
  omega
theorem sub_head (s : ByteArray) {k : Nat} (h : k < s.size) (h0 : 0 < (s.extract k s.size).size) : (s.extract k s.size)[0]'h0 = s[k] := by
  rw [ByteArray.getElem_extract]
  rfl

theorem asc_two : asc ⟨#[32, 97]⟩ := by
  intro k h
  match k, h with
  | 0, _ => show (32 : UInt8).toNat < 128; decide
  | 1, _ => show (97 : UInt8).toNat < 128; decide
theorem lead_two : (⟨#[32, 97]⟩ : ByteArray).extract (lead (nums ⟨#[32, 97]⟩)) (⟨#[32, 97]⟩ : ByteArray).size = ⟨#[97]⟩ := by
  have e : lead (nums ⟨#[32, 97]⟩) = 1 := by decide
  rw [e]
  rfl
set_option maxHeartbeats 2000000 in
theorem tl_walk (s : ByteArray) (w : World) (hs : s.size ≤ 140737488351232) :
    Calls Tryd.prog 4 #[.string s] w fun e w' => e = .returned (.bool true) ∧ Below w.heap.size w w' := by
  cases ha : asc9 s
  · by_cases h1 : 2147483647 < s.size
    · go_enter Tryd.func4, Tryd.ntmps4
      go_wp2_with fail
      go_ret
      exact ⟨rfl, Old.refl _⟩
    · go_enter Tryd.func4, Tryd.ntmps4
      go_wp2_with (go_at_call 12; refine (ascii9_any _ _ (by omega)).mono ?_; rintro e w1 ⟨rfl, rfl⟩)
      go_ret
      exact ⟨rfl, Old.refl _⟩
  · obtain ⟨ha1, ha2⟩ := asc9_iff.1 ha
    have HA := Lib.hid ha1
    clear ha1
    go_enter Tryd.func4, Tryd.ntmps4
    go_wp2_with (go_at_call 12; refine (ascii9_any _ _ (by omega)).mono ?_; rintro e w1 ⟨rfl, rfl⟩)
    go_loopw [3] (fun v wr => ∃ k : Nat, k ≤ s.size ∧ v = .string (s.extract k s.size) ∧ (∀ j, j < k → spB (gi (nums s) j) = true) ∧ wr = w) (fun v _ => match v with | .string t => t.size | _ => 0)
    case atStart => exact ⟨0, Nat.zero_le _, by rw [ByteArray.extract_zero_size], fun _ h => absurd h (by omega), rfl⟩
    case round =>
      obtain ⟨k, hk, rfl, hsp, rfl⟩ := hrel
      have HS := Lib.hid hsp
      clear hsp
      have z := sub_size s hk
      by_cases hks : k < s.size
      · have X0 : ∀ h0 : 0 < (s.extract k s.size).size, (s.extract k s.size)[0]'h0 = s[k] := fun h0 => sub_head s hks h0
        have hx : gi (nums s) k = (s[k].toNat : Int) := gi_nums hks
        have SS := sub_sub s hks
        have i0 : 0 < s.size - k := by omega
        have i1 : k < s.size := hks
        have i2 : (0 : Int) < (s.size : Int) - k := by omega
        obtain ⟨x, hxx⟩ : ∃ x, x = s[k] := ⟨_, rfl⟩
        rw [← hxx] at X0 hx
        clear hxx
        by_cases h1 : x.toNat = 32
        · have hsp : spB (gi (nums s) k) = true := by rw [hx, h1]; rfl
          go_wp2_with fail
          go_roundw
          case rel => exact ⟨k + 1, by omega, rfl, fun j hj => by
            by_cases e : j = k
            · rw [e]; exact hsp
            · exact HS.out j (by omega), by first | rfl | trivial⟩
          case measure => show (s.extract (k + 1) s.size).size < (s.extract k s.size).size; rw [sub_size s hk, sub_size s (by omega)]; omega
        have d1 : ((x.toNat : Int) == 32) = false := by rw [beq_eq_false_iff_ne]; omega
        by_cases h2 : 9 ≤ x.toNat ∧ x.toNat ≤ 13
        · have hsp : spB (gi (nums s) k) = true := by rw [hx]; unfold spB; rw [decide_eq_true_eq]; omega
          have d2 : decide ((x.toNat : Int) ≥ 9) = true := by rw [decide_eq_true_eq]; omega
          have d3 : decide ((x.toNat : Int) ≤ 13) = true := by rw [decide_eq_true_eq]; omega
          obtain ⟨h3, h4⟩ := h2
          go_wp2_with fail
          go_roundw
          case rel => exact ⟨k + 1, by omega, rfl, fun j hj => by
            by_cases e : j = k
            · rw [e]; exact hsp
            · exact HS.out j (by omega), by first | rfl | trivial⟩
          case measure => show (s.extract (k + 1) s.size).size < (s.extract k s.size).size; rw [sub_size s hk, sub_size s (by omega)]; omega
        have hsp : spB (gi (nums s) k) = false := by rw [hx]; unfold spB; rw [decide_eq_false_iff_not]; omega
        have LD := Lib.hid (lead_at HS.out (by rw [length_nums]; exact hks) hsp)
        have mk : Hid True := trivial
        clear hsp
        by_cases h3 : x.toNat < 9
        · have d2 : decide ((x.toNat : Int) ≥ 9) = false := by rw [decide_eq_false_iff_not]; omega
          go_wp2_with (first
            | (go_at_call 13; have mk2 := mk; clear mk mk2; refine (tl_any s wr HA.out ha2).mono ?_; rintro e w1 ⟨rfl, o1⟩; rw [LD.out]; have O1 := Lib.hid o1; clear o1)
            | (go_at_call 13; refine (tl_any ⟨#[32, 97]⟩ w1 asc_two (by decide)).mono ?_; rintro e w2 ⟨rfl, o2⟩; rw [lead_two]; have O2 := Lib.hid o2; clear o2))
          go_ret
          exact ⟨ret_bool (by simp), O1.out.trans O2.out⟩
        · have d2 : decide ((x.toNat : Int) ≥ 9) = true := by rw [decide_eq_true_eq]; omega
          have h4 : 13 < x.toNat := by omega
          have d3 : decide ((x.toNat : Int) ≤ 13) = false := by rw [decide_eq_false_iff_not]; omega
          go_wp2_with (first
            | (go_at_call 13; have mk2 := mk; clear mk mk2; refine (tl_any s wr HA.out ha2).mono ?_; rintro e w1 ⟨rfl, o1⟩; rw [LD.out]; have O1 := Lib.hid o1; clear o1)
            | (go_at_call 13; refine (tl_any ⟨#[32, 97]⟩ w1 asc_two (by decide)).mono ?_; rintro e w2 ⟨rfl, o2⟩; rw [lead_two]; have O2 := Lib.hid o2; clear o2))
          go_ret
          exact ⟨ret_bool (by simp), O1.out.trans O2.out⟩
      · have hks' : k = s.size := by omega
        subst hks'
        have LD := Lib.hid (lead_all (l := nums s) (fun j hj => HS.out j (by rw [length_nums] at hj; exact hj)))
        rw [length_nums] at LD
        have mk : Hid True := trivial
        go_wp2_with (first
            | (go_at_call 13; have mk2 := mk; clear mk mk2; refine (tl_any s wr HA.out ha2).mono ?_; rintro e w1 ⟨rfl, o1⟩; rw [LD.out]; have O1 := Lib.hid o1; clear o1)
            | (go_at_call 13; refine (tl_any ⟨#[32, 97]⟩ w1 asc_two (by decide)).mono ?_; rintro e w2 ⟨rfl, o2⟩; rw [lead_two]; have O2 := Lib.hid o2; clear o2))
        go_ret
        exact ⟨ret_bool (by simp), O1.out.trans O2.out⟩
end Go.Proofs.YthfjkaeenpbebaaDoor
