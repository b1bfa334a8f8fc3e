/- FnRoom: the walk (the statement is told in the row). -/
import Derived.Test.YtnfpcpjiljjdfaaRoom
namespace Go.Proofs.Ytnfpcpjiljjdfaa
open Go.RowKit
set_option linter.unusedVariables false
set_option linter.unusedSimpArgs false
set_option linter.unnecessarySimpa false
set_option maxRecDepth 100000

theorem room_guard (p c l : Int) (w : World) (h : ¬ (0 ≤ p ∧ p ≤ 10000 ∧ 1 ≤ c ∧ c ≤ 200 ∧ l ≤ 100)) :
    Calls Try.prog 3 #[.int .i64 p, .int .i64 c, .int .u8 l] w fun e w' => e = .returned (.bool true) ∧ Old w w' := by
  have H := Lib.hid h
  clear h
  go_enter Try.func3, Try.ntmps3
  by_cases h1 : p < 0
  · go_wp2_with fail
    go_ret
    exact ⟨rfl, Old.refl _⟩
  by_cases h2 : 10000 < p
  · go_wp2_with fail
    go_ret
    exact ⟨rfl, Old.refl _⟩
  by_cases h3 : c < 1
  · go_wp2_with fail
    go_ret
    exact ⟨rfl, Old.refl _⟩
  by_cases h4 : 200 < c
  · go_wp2_with fail
    go_ret
    exact ⟨rfl, Old.refl _⟩
  by_cases h5 : 100 < l
  · go_wp2_with fail
    go_ret
    exact ⟨rfl, Old.refl _⟩
  exact absurd ⟨by omega, by omega, by omega, by omega, by omega⟩ H.out

theorem lineWrapped_zero (c : Nat) (w : World) (hc : 1 ≤ c) (hc2 : c ≤ 200) :
    Calls Try.prog 11 #[.int .i64 0, .int .i64 c] w fun e w' => e = .returned (.tuple #[.string (wrapsB 0 c), .bool true]) ∧ Old w w' := lineWrapped_any 0 c w (by omega) hc hc2
set_option maxHeartbeats 2000000 in
theorem room_nat (p c l : Nat) (w : World) (hp : p ≤ 10000) (hc : 1 ≤ c) (hc2 : c ≤ 200) (hl : l ≤ 100) :
    Calls Try.prog 3 #[.int .i64 p, .int .i64 c, .int .u8 l] w fun e w' => e = .returned (.bool true) ∧ Old w w' := by
  have hc0 : ((c : Int) == 0) = false := by rw [beq_eq_false_iff_ne]; omega
  have hcs : (0 < p ∧ p % c = 0 ∧ wrapsB p c = ⟨#[10]⟩ ∧ ((p : Int) % (c : Int) == 0) = true) ∨ (0 < p ∧ wrapsB p c = ⟨#[]⟩ ∧ ((p : Int) % (c : Int) == 0) = false) ∨ (p = 0 ∧ wrapsB p c = ⟨#[]⟩) := by
    by_cases h1 : 0 < p
    · by_cases h2 : p % c = 0
      · refine .inl ⟨h1, h2, by unfold wrapsB; rw [if_pos ⟨h1, h2⟩], ?_⟩
        rw [beq_iff_eq]; exact_mod_cast h2
      · refine .inr (.inl ⟨h1, by unfold wrapsB; rw [if_neg (fun x => h2 x.2)], ?_⟩)
        rw [beq_eq_false_iff_ne]; intro e; apply h2; exact_mod_cast e
    · exact .inr (.inr ⟨by omega, by unfold wrapsB; rw [if_neg (fun x => h1 x.1)]⟩)
  rcases hcs with ⟨h1, h2, h3, h4⟩ | ⟨h1, h3, h4⟩ | ⟨rfl, h3⟩
  · have HW := Lib.hid h3
    clear h3
    go_enter Try.func3, Try.ntmps3
    go_wp2_with fail
    go_loopw [8, 9, 10] (fun d u i wr => ∃ k : Nat, k ≤ l ∧ i = .int .i64 k ∧ d = .string (repB dn k) ∧ u = .string (repB upw k) ∧ wr = w) (fun _ _ i _ => l - (intOf i).toNat)
    case atStart => exact ⟨0, Nat.zero_le _, rfl, rfl, rfl, rfl⟩
    case round =>
      obtain ⟨k, hk, rfl, rfl, rfl, rfl⟩ := hrel
      have z1 : (repB dn k).size = k * 2 := size_repB dn k
      have z2 : (repB upw k).size = k * 2 := size_repB upw k
      by_cases hkl : k < l
      · go_wp2_with fail
        go_roundw
        case rel => exact ⟨k + 1, by omega, by go_num, rfl, rfl, by first | rfl | trivial⟩
        case measure => simp [intOf]; omega
      · have hkl' : k = l := by omega
        subst hkl'
        go_wp2_with (first
          | (go_at_call 11; refine (lineWrapped_any p c _ hp hc hc2).mono ?_; rintro e w1 ⟨rfl, o1⟩; have O1 := Lib.hid o1; clear o1)
          | (go_at_call 12; refine (prepared_any k _ hl).mono ?_; rintro e w2 ⟨rfl, o2⟩; have O2 := Lib.hid o2; clear o2; have hw := HW.out; rw [hw]))
        go_ret
        exact ⟨rfl, O1.out.trans O2.out⟩
  · have HW := Lib.hid h3
    clear h3
    go_enter Try.func3, Try.ntmps3
    go_wp2_with fail
    go_loopw [8, 9, 10] (fun d u i wr => ∃ k : Nat, k ≤ l ∧ i = .int .i64 k ∧ d = .string (repB dn k) ∧ u = .string (repB upw k) ∧ wr = w) (fun _ _ i _ => l - (intOf i).toNat)
    case atStart => exact ⟨0, Nat.zero_le _, rfl, rfl, rfl, rfl⟩
    case round =>
      obtain ⟨k, hk, rfl, rfl, rfl, rfl⟩ := hrel
      have z1 : (repB dn k).size = k * 2 := size_repB dn k
      have z2 : (repB upw k).size = k * 2 := size_repB upw k
      by_cases hkl : k < l
      · go_wp2_with fail
        go_roundw
        case rel => exact ⟨k + 1, by omega, by go_num, rfl, rfl, by first | rfl | trivial⟩
        case measure => simp [intOf]; omega
      · have hkl' : k = l := by omega
        subst hkl'
        go_wp2_with (first
          | (go_at_call 11; refine (lineWrapped_any p c _ hp hc hc2).mono ?_; rintro e w1 ⟨rfl, o1⟩; have O1 := Lib.hid o1; clear o1)
          | (go_at_call 12; refine (prepared_any k _ hl).mono ?_; rintro e w2 ⟨rfl, o2⟩; have O2 := Lib.hid o2; clear o2; have hw := HW.out; rw [hw]))
        go_ret
        exact ⟨rfl, O1.out.trans O2.out⟩
  · have HW := Lib.hid h3
    clear h3
    go_enter Try.func3, Try.ntmps3
    go_wp2_with fail
    go_loopw [8, 9, 10] (fun d u i wr => ∃ k : Nat, k ≤ l ∧ i = .int .i64 k ∧ d = .string (repB dn k) ∧ u = .string (repB upw k) ∧ wr = w) (fun _ _ i _ => l - (intOf i).toNat)
    case atStart => exact ⟨0, Nat.zero_le _, rfl, rfl, rfl, rfl⟩
    case round =>
      obtain ⟨k, hk, rfl, rfl, rfl, rfl⟩ := hrel
      have z1 : (repB dn k).size = k * 2 := size_repB dn k
      have z2 : (repB upw k).size = k * 2 := size_repB upw k
      by_cases hkl : k < l
      · go_wp2_with fail
        go_roundw
        case rel => exact ⟨k + 1, by omega, by go_num, rfl, rfl, by first | rfl | trivial⟩
        case measure => simp [intOf]; omega
      · have hkl' : k = l := by omega
        subst hkl'
        go_wp2_with (first
          | (go_at_call 11; refine (lineWrapped_zero c _ hc hc2).mono ?_; rintro e w1 ⟨rfl, o1⟩; have O1 := Lib.hid o1; clear o1)
          | (go_at_call 12; refine (prepared_any k _ hl).mono ?_; rintro e w2 ⟨rfl, o2⟩; have O2 := Lib.hid o2; clear o2; have hw := HW.out; rw [hw]))
        go_ret
        exact ⟨rfl, O1.out.trans O2.out⟩

theorem law_room (p c l : Int) (w : World) (hp : (Lit.int .i64 p).wf = true) (hc : (Lit.int .i64 c).wf = true) (hl : (Lit.int .u8 l).wf = true) :
    Calls Try.prog 3 #[.int .i64 p, .int .i64 c, .int .u8 l] w fun e w' => e = .returned (.bool true) ∧ Below w.heap.size w w' := by
  by_cases h : 0 ≤ p ∧ p ≤ 10000 ∧ 1 ≤ c ∧ c ≤ 200 ∧ l ≤ 100
  · have h0 : 0 ≤ l := by
      simp [Lit.wf, IntKind.min, IntKind.signed] at hl
      exact hl.1
    obtain ⟨x, rfl⟩ := Int.eq_ofNat_of_zero_le h.1
    obtain ⟨y, rfl⟩ := Int.eq_ofNat_of_zero_le (show 0 ≤ c by omega)
    obtain ⟨z, rfl⟩ := Int.eq_ofNat_of_zero_le h0
    exact room_nat x y z w (by omega) (by omega) (by omega) (by omega)
  · exact room_guard p c l w h
end Go.Proofs.Ytnfpcpjiljjdfaa
