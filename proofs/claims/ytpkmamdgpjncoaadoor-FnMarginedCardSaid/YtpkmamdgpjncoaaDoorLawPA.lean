/- The law FnPaddedAgain, walked. -/
import Derived.Test.YtpkmamdgpjncoaaDoorPlain
namespace Go.Proofs.YtpkmamdgpjncoaaDoor
open Go.RowKit
set_option linter.unusedVariables false
set_option linter.unusedSimpArgs false
set_option linter.unnecessarySimpa false
set_option maxRecDepth 100000

theorem padR_grows (n : Nat) : ∀ (m : List UInt8) (s : List UInt8 × Nat), s.1.length ≤ (m.foldl (padS n) s).1.length
  | [], s => Nat.le_refl _
  | c :: m, s => by
    rw [List.foldl_cons]
    refine Nat.le_trans ?_ (padR_grows n m _)
    unfold padS
    split <;> simp
theorem padR_mono (n : Nat) (l : List UInt8) (i : Nat) : (padR n (l.take i)).1.length ≤ (padR n l).1.length := by
  have e : padR n l = (l.drop i).foldl (padS n) (padR n (l.take i)) := by rw [← padR_app, List.take_append_drop]
  rw [e]
  exact padR_grows n _ _
theorem padR_leM (n : Nat) (l : List UInt8) : (padR n l).1.length ≤ (padM n l).length := by
  unfold padM padE
  split
  · exact Nat.le_refl _
  · simp
theorem padOk_of {width : Nat} {d : List UInt8} (h1 : pln d) (h2 : d.length ≤ 100000) (h3 : width ≤ 1000) (h4 : (padM width d).length ≤ 900000) : padOk width d :=
  ⟨h1, h2, h3, fun i _ => by have := padR_mono width d i; have := padR_leM width d; omega⟩
theorem padM_small {width : Nat} {d : List UInt8} (h2 : d.length ≤ 800) (h3 : width ≤ 100) : (padM width d).length ≤ 80900 := by
  have := padM_len width d
  have h : d.length * width ≤ 800 * 100 := Nat.mul_le_mul h2 h3
  omega
theorem u8_nat {a : Int} (h : (Lit.int .u8 a).wf = true) : ∃ n : Nat, a = n ∧ n ≤ 255 := by
  simp only [Lit.wf, decide_eq_true_eq, Bool.and_eq_true] at h
  have e1 : IntKind.u8.min = 0 := rfl
  have e2 : IntKind.u8.max = 255 := rfl
  rw [e1, e2] at h
  exact ⟨a.toNat, by omega, by omega⟩
set_option maxHeartbeats 4000000 in
theorem pa_main (d : List UInt8) (a b : Nat) (w : World) (h1 : pln d) (h2 : d.length ≤ 800) (ha : a ≤ 100) (hb : b ≤ 100) (hS : s16B ⟨d.toArray⟩ = true) :
    Calls Tryd.prog 6 #[.string ⟨d.toArray⟩, .int .u8 a, .int .u8 b] w fun e w' => e = .returned (.bool true) ∧ Old w w' := by
  have hsz : (⟨d.toArray⟩ : ByteArray).size = d.length := by simp [ByteArray.size]
  have K1 : Hid (padOk a d) := padOk_of h1 (by omega) (by omega) (by have := padM_small h2 ha; omega)
  have hm : max a b ≤ 100 := by omega
  have K3 : Hid (padOk (max a b) d) := padOk_of h1 (by omega) (by omega) (by have := padM_small h2 hm; omega)
  have K2 : Hid (padOk b (padM a d)) := padOk_of (pln_padM a h1) (by have := padM_small h2 ha; omega) (by omega) (by rw [padM_two]; have := padM_small h2 hm; omega)
  have K4 : Hid (padOk 2 [97]) := padOk_of (pln_one (.inr ⟨by decide, by decide⟩)) (by simp) (by omega) (by have : padM 2 [97] = [97, 32] := rfl; rw [this]; simp)
  have E2 : Hid (padM b (padM a d) = padM (max a b) d) := padM_two a b d
  have e4 : padM 2 [97] = [97, 32] := rfl
  have E4 := Lib.hid e4
  have d1 : decide (((⟨d.toArray⟩ : ByteArray).size : Int) > 2147483647) = false := by rw [hsz]; simp; omega
  have d2 : decide ((a : Int) > 100) = false := by simp; omega
  have d3 : decide ((b : Int) > 100) = false := by simp; omega
  have wa : IntKind.u64.wrap (a : Int) = a := by have := IntKind.wrap_u64 (a : Int); rw [this]; omega
  have wb : IntKind.u64.wrap (b : Int) = b := by have := IntKind.wrap_u64 (b : Int); rw [this]; omega
  have wm : IntKind.u64.wrap ((max a b : Nat) : Int) = (max a b : Nat) := by have := IntKind.wrap_u64 ((max a b : Nat) : Int); rw [this]; omega
  have em : max (a : Int) (b : Int) = ((max a b : Nat) : Int) := by omega
  clear h1 e4
  go_enter Tryd.func6, Tryd.ntmps6
  go_wp2_with (first
    | (go_at_call 8; refine (s16_any _ _ (by rw [hsz]; omega)).mono ?_; rintro e w1 ⟨rfl, rfl⟩; rw [hS])
    | (go_at_call 21; with_reducible refine (ipd_any a d w K1.out).mono ?_; rintro e w2 ⟨rfl, o2⟩; have O2 := Lib.hid o2; clear o2)
    | (go_at_call 21; with_reducible refine (ipd_any b (padM a d) w2 K2.out).mono ?_; rintro e w3 ⟨rfl, o3⟩; rw [E2.out]; have O3 := Lib.hid (O2.out.trans o3); clear o3)
    | (go_at_call 21; with_reducible refine (ipd_any (max a b) d w3 K3.out).mono ?_; rintro e w4 ⟨rfl, o4⟩; have O4 := Lib.hid (O3.out.trans o4); clear o4)
    | (go_at_call 21; refine (ipd_any 2 [97] w4 K4.out).mono ?_; rintro e w5 ⟨rfl, o5⟩; rw [E4.out]; have O5 := Lib.hid (O4.out.trans o5); clear o5))
  go_ret
  exact ⟨rfl, O5.out⟩
theorem s16_iff {s : ByteArray} : s16B s = true ↔ s.size ≤ 800 ∧ plain s := by unfold s16B; simp
set_option maxHeartbeats 4000000 in
theorem lawPA_any (s : ByteArray) (x y : Int) (w : World) (hs : s.size ≤ 140737488351232) (hx : (Lit.int .u8 x).wf = true) (hy : (Lit.int .u8 y).wf = true) :
    Calls Tryd.prog 6 #[.string s, .int .u8 x, .int .u8 y] w fun e w' => e = .returned (.bool true) ∧ Below w.heap.size w w' := by
  obtain ⟨a, rfl, ha⟩ := u8_nat hx
  obtain ⟨b, rfl, hb⟩ := u8_nat hy
  clear hx hy
  by_cases h1 : s.size ≤ 2147483647
  · have d1 : decide ((s.size : Int) > 2147483647) = false := by simp; omega
    by_cases h2 : s16B s = true
    · by_cases h3 : a ≤ 100
      · by_cases h4 : b ≤ 100
        · obtain ⟨k1, k2⟩ := s16_iff.1 h2
          obtain ⟨d, rfl⟩ : ∃ d : List UInt8, s = ⟨d.toArray⟩ := ⟨s.data.toList, by cases s; simp⟩
          refine (pa_main d a b w ?_ ?_ h3 h4 h2).mono (fun e w' h => h)
          · exact plain_pln k2
          · simpa [ByteArray.size] using k1
        · have d2 : decide ((a : Int) > 100) = false := by simp; omega
          have d3 : decide ((b : Int) > 100) = true := by simp; omega
          have H2 := Lib.hid h2
          clear h2
          go_enter Tryd.func6, Tryd.ntmps6
          go_wp2_with (go_at_call 8; refine (s16_any s w h1).mono ?_; rintro e w1 ⟨rfl, rfl⟩; rw [H2.out])
          go_ret
          exact ⟨rfl, Below.refl _ _⟩
      · have d2 : decide ((a : Int) > 100) = true := by simp; omega
        have H2 := Lib.hid h2
        clear h2
        go_enter Tryd.func6, Tryd.ntmps6
        go_wp2_with (go_at_call 8; refine (s16_any s w h1).mono ?_; rintro e w1 ⟨rfl, rfl⟩; rw [H2.out])
        go_ret
        exact ⟨rfl, Below.refl _ _⟩
    · have h2 : s16B s = false := by simpa using h2
      have H2 := Lib.hid h2
      clear h2
      go_enter Tryd.func6, Tryd.ntmps6
      go_wp2_with (go_at_call 8; refine (s16_any s w h1).mono ?_; rintro e w1 ⟨rfl, rfl⟩; rw [H2.out])
      go_ret
      exact ⟨rfl, Below.refl _ _⟩
  · have d1 : decide ((s.size : Int) > 2147483647) = true := by simp; omega
    go_enter Tryd.func6, Tryd.ntmps6
    go_wp2_with fail
    go_ret
    exact ⟨rfl, Below.refl _ _⟩
end Go.Proofs.YtpkmamdgpjncoaaDoor
