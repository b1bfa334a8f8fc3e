/- FnEscapeTwo: the walk (the statement is told in the row). -/
import Derived.Test.YthfjkaeenpbebaaDoorGet2
namespace Go.Proofs.YthfjkaeenpbebaaDoor
open Go.RowKit
set_option linter.unusedVariables false
set_option linter.unusedSimpArgs false
set_option linter.unnecessarySimpa false
set_option maxRecDepth 100000

def semi : ByteArray := ⟨#[59]⟩
def seven : ByteArray := ⟨#[55]⟩
theorem semi_at : gi (nums semi) 0 = 59 := by decide
theorem seven_no : ∀ k, k < seven.size → ¬ gi (nums seven) k = 59 := by
  intro k hk
  have h1 : seven.size = 1 := rfl
  have : k = 0 := by omega
  subst this
  decide
theorem two_of (x y : ByteArray) (a b : Nat) (w : World) (hx : Dig x a) (hy : Dig y b) (ha : a ≤ 999999999) (hb : b ≤ 999999999) :
    Calls Tryd.prog 20 #[.string (x ++ semi ++ y)] w fun e w' => e = .returned (.tuple #[.int .i64 a, .int .i64 b, .bool true]) ∧ Old w w' := by
  have z1 : semi.size = 1 := rfl
  have zx := hx.2.1
  have zy := hy.2.1
  exact two_any (x ++ semi ++ y) x y a b [] w (by rw [ByteArray.size_append, ByteArray.size_append, z1]; omega) (spAll_two hx.no59 hy.no59 semi z1 semi_at) hx hy ha hb
theorem semi_seven : (⟨#[59, 55]⟩ : ByteArray) = semi ++ seven := ByteArray.ext (by rw [ByteArray.data_append]; rfl)
theorem more_is (x y : ByteArray) : x ++ semi ++ y ++ ⟨#[59, 55]⟩ = x ++ semi ++ y ++ semi ++ seven := by rw [semi_seven, ← ByteArray.append_assoc]
theorem more_parts (x y : ByteArray) (a b : Nat) (hx : Dig x a) (hy : Dig y b) : spAll (x ++ semi ++ y ++ semi ++ seven) 59 = x :: y :: [seven] := by
  have z1 : semi.size = 1 := rfl
  rw [spAll_more seven_no z1 semi_at, spAll_two hx.no59 hy.no59 semi z1 semi_at]
  rfl
theorem more_size (x y : ByteArray) (zx : x.size ≤ 11) (zy : y.size ≤ 11) : (x ++ semi ++ y ++ semi ++ seven).size ≤ 1000 := by
  have z1 : semi.size = 1 := rfl
  have z2 : seven.size = 1 := rfl
  rw [ByteArray.size_append, ByteArray.size_append, ByteArray.size_append, ByteArray.size_append, z1, z2]
  omega
theorem two_more (x y : ByteArray) (a b : Nat) (w : World) (hx : Dig x a) (hy : Dig y b) (ha : a ≤ 999999999) (hb : b ≤ 999999999) :
    Calls Tryd.prog 20 #[.string (x ++ semi ++ y ++ ⟨#[59, 55]⟩)] w fun e w' => e = .returned (.tuple #[.int .i64 a, .int .i64 b, .bool true]) ∧ Old w w' := by
  rw [more_is]
  exact two_any _ x y a b [seven] w (more_size x y hx.2.1 hy.2.1) (more_parts x y a b hx hy) hx hy ha hb

theorem et_guard (a b : Int) (m : Bool) (w : World) (h : ¬ (a < 1000000 ∧ b < 1000000)) :
    Calls Tryd.prog 7 #[.int .u32 a, .int .u32 b, .bool m] w fun e w' => e = .returned (.bool true) ∧ Old w w' := by
  have H := Lib.hid h
  clear h
  go_enter Tryd.func7, Tryd.ntmps7
  by_cases h1 : 1000000 ≤ a
  · go_wp2_with fail
    go_ret
    exact ⟨rfl, Old.refl _⟩
  by_cases h2 : 1000000 ≤ b
  · go_wp2_with fail
    go_ret
    exact ⟨rfl, Old.refl _⟩
  exact absurd ⟨by omega, by omega⟩ H.out

set_option maxHeartbeats 2000000 in
theorem et_nat (a b : Nat) (m : Bool) (w : World) (ha : a < 1000000) (hb : b < 1000000) :
    Calls Tryd.prog 7 #[.int .u32 a, .int .u32 b, .bool m] w fun e w' => e = .returned (.bool true) ∧ Old w w' := by
  have mk : Hid True := trivial
  have d1 : decide ((a : Int) ≥ 1000000) = false := by rw [decide_eq_false_iff_not]; omega
  have d2 : decide ((b : Int) ≥ 1000000) = false := by rw [decide_eq_false_iff_not]; omega
  have HA : Hid (a < 1000000) := ha
  have HB : Hid (b < 1000000) := hb
  have a9 : (a : Int) ≤ 2000000000 := by omega
  have b9 : (b : Int) ≤ 2000000000 := by omega
  clear ha hb
  cases m
  · go_enter Tryd.func7, Tryd.ntmps7
    go_wp2_with (first
      | (go_at_call 18; have q := mk; clear mk q; refine (number_any a _ (by have := HA.out; omega)).mono ?_; rintro e w1 ⟨x, rfl, hx, o1⟩; have O1 := Lib.hid o1; have HX := Lib.hid hx; have zx := hx.2.1; clear o1 hx)
      | (go_at_call 18; refine (number_any b _ (by have := HB.out; omega)).mono ?_; rintro e w2 ⟨y, rfl, hy, o2⟩; have O2 := Lib.hid (O1.out.trans o2); have HY := Lib.hid hy; have zy := hy.2.1; clear o2 hy)
      | (go_at_call 20; refine (two_of x y a b _ HX.out HY.out (by have := HA.out; omega) (by have := HB.out; omega)).mono ?_; rintro e w3 ⟨rfl, o3⟩; have O3 := Lib.hid (O2.out.trans o3); clear o3))
    go_ret
    exact ⟨ret_bool (by simp), O3.out⟩
  · go_enter Tryd.func7, Tryd.ntmps7
    go_wp2_with (first
      | (go_at_call 18; have q := mk; clear mk q; refine (number_any a _ (by have := HA.out; omega)).mono ?_; rintro e w1 ⟨x, rfl, hx, o1⟩; have O1 := Lib.hid o1; have HX := Lib.hid hx; have zx := hx.2.1; clear o1 hx)
      | (go_at_call 18; refine (number_any b _ (by have := HB.out; omega)).mono ?_; rintro e w2 ⟨y, rfl, hy, o2⟩; have O2 := Lib.hid (O1.out.trans o2); have HY := Lib.hid hy; have zy := hy.2.1; clear o2 hy)
      | (go_at_call 20; refine (two_more x y a b _ HX.out HY.out (by have := HA.out; omega) (by have := HB.out; omega)).mono ?_; rintro e w3 ⟨rfl, o3⟩; have O3 := Lib.hid (O2.out.trans o3); clear o3))
    go_ret
    exact ⟨ret_bool (by simp), O3.out⟩

theorem law_escapeTwo (a b : Int) (m : Bool) (w : World) (ha : (Lit.int .u32 a).wf = true) (hb : (Lit.int .u32 b).wf = true) :
    Calls Tryd.prog 7 #[.int .u32 a, .int .u32 b, .bool m] w fun e w' => e = .returned (.bool true) ∧ Below w.heap.size w w' := by
  by_cases h : a < 1000000 ∧ b < 1000000
  · have a0 : 0 ≤ a := by
      simp [Lit.wf, IntKind.min, IntKind.signed] at ha
      exact ha.1
    have b0 : 0 ≤ b := by
      simp [Lit.wf, IntKind.min, IntKind.signed] at hb
      exact hb.1
    obtain ⟨x, rfl⟩ := Int.eq_ofNat_of_zero_le a0
    obtain ⟨y, rfl⟩ := Int.eq_ofNat_of_zero_le b0
    exact et_nat x y m w (by omega) (by omega)
  · exact et_guard a b m w h
end Go.Proofs.YthfjkaeenpbebaaDoor
