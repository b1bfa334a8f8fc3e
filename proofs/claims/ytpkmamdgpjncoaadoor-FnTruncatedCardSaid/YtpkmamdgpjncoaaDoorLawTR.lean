/- The law FnTruncated, walked. -/
import Derived.Test.YtpkmamdgpjncoaaDoorTruns
import Derived.Test.YtpkmamdgpjncoaaDoorLawPA
namespace Go.Proofs.YtpkmamdgpjncoaaDoor
open Go.RowKit
set_option linter.unusedVariables false
set_option linter.unusedSimpArgs false
set_option linter.unnecessarySimpa false
set_option maxRecDepth 100000

theorem p16_iff {s : ByteArray} : p16B s = true ↔ s.size ≤ 2000 ∧ plain s := by unfold p16B; simp
theorem ln_iff {s : ByteArray} : lnB s = true ↔ lined s := by unfold lnB; simp
theorem prS_of {s : ByteArray} (h : plain s) (k : lined s) : prS s.data.toList := fun c hc => by
  obtain ⟨i, hi, e⟩ := List.getElem_of_mem hc
  have h1 := h i (by simpa using hi)
  have h2 := k i (by simpa using hi)
  have e2 : s[i]'(by simpa using hi) = c := e
  rw [e2] at h1 h2
  rcases h1 with h1 | h1
  · exact absurd h1 h2
  · exact h1
theorem tr_abc : trM 2 [97, 98, 99] [] = [97, 98] := rfl
set_option maxHeartbeats 4000000 in
theorem tr_main (d t : List UInt8) (a : Nat) (w : World) (h1 : prS d) (h2 : prS t) (h3 : d.length ≤ 2000) (h4 : t.length ≤ 2000) (ha : a ≤ 200) (k1 : p16B ⟨d.toArray⟩ = true) (k2 : p16B ⟨t.toArray⟩ = true) (k3 : lnB ⟨d.toArray⟩ = true) (k4 : lnB ⟨t.toArray⟩ = true) :
    Calls Tryd.prog 5 #[.string ⟨d.toArray⟩, .int .u8 a, .string ⟨t.toArray⟩] w fun e w' => e = .returned (.bool true) ∧ Old w w' := by
  have s1 : (⟨d.toArray⟩ : ByteArray).size = d.length := by simp [ByteArray.size]
  have s2 : (⟨t.toArray⟩ : ByteArray).size = t.length := by simp [ByteArray.size]
  have H1 := Lib.hid h1
  have H2 := Lib.hid h2
  have K1 := Lib.hid k1
  have K2 := Lib.hid k2
  have K3 := Lib.hid k3
  have K4 := Lib.hid k4
  have A1 : Hid (prS [97, 98, 99]) := by intro c hc; simp at hc; rcases hc with rfl | rfl | rfl <;> decide
  have A2 : Hid (prS []) := by intro c hc; cases hc
  have d3 : decide ((a : Int) > 200) = false := by simp; omega
  have wa : IntKind.u64.wrap (a : Int) = a := by have := IntKind.wrap_u64 (a : Int); rw [this]; omega
  have wb : IntKind.i64.wrap (a : Int) = a := by have := IntKind.wrap_i64 (a : Int); rw [this]; omega
  clear h1 h2 k1 k2 k3 k4
  go_enter Tryd.func5, Tryd.ntmps5
  go_wp2_with (first
    | (go_at_call 18; with_reducible refine (p16_any ⟨d.toArray⟩ _ (by rw [s1]; omega)).mono ?_; rintro e w1 ⟨rfl, rfl⟩; rw [K1.out])
    | (go_at_call 18; with_reducible refine (p16_any ⟨t.toArray⟩ _ (by rw [s2]; omega)).mono ?_; rintro e w1 ⟨rfl, rfl⟩; rw [K2.out])
    | (go_at_call 9; with_reducible refine (ln_any16 ⟨d.toArray⟩ _ (by rw [s1]; omega)).mono ?_; rintro e w1 ⟨rfl, rfl⟩; rw [K3.out])
    | (go_at_call 9; with_reducible refine (ln_any16 ⟨t.toArray⟩ _ (by rw [s2]; omega)).mono ?_; rintro e w1 ⟨rfl, rfl⟩; rw [K4.out])
    | (go_at_call 19; with_reducible refine (itr_any a d t w H1.out H2.out (by omega) (by omega) (by omega)).mono ?_; rintro e w2 ⟨rfl, o2⟩; have O2 := Lib.hid o2; clear o2)
    | (go_at_call 20; with_reducible refine (str_any a d t w2 (by omega) (by omega) (by omega)).mono ?_; rintro e w3 ⟨rfl, rfl⟩)
    | (go_at_call 19; refine (itr_any 2 [97, 98, 99] [] w3 A1.out A2.out (by simp) (by simp) (by omega)).mono ?_; rintro e w4 ⟨rfl, o4⟩; rw [tr_abc]; have O4 := Lib.hid (O2.out.trans o4); clear o4))
  go_ret
  exact ⟨rfl, O4.out⟩
set_option maxHeartbeats 4000000 in
theorem lawTR_any (s : ByteArray) (x : Int) (u : ByteArray) (w : World) (hs : s.size ≤ 140737488351232) (hx : (Lit.int .u8 x).wf = true) (hu : u.size ≤ 140737488351232) :
    Calls Tryd.prog 5 #[.string s, .int .u8 x, .string u] w fun e w' => e = .returned (.bool true) ∧ Below w.heap.size w w' := by
  obtain ⟨a, rfl, ha⟩ := u8_nat hx
  clear hx
  by_cases h1 : s.size ≤ 2147483647
  · have d1 : decide ((s.size : Int) > 2147483647) = false := by simp; omega
    by_cases h2 : u.size ≤ 2147483647
    · have d2 : decide ((u.size : Int) > 2147483647) = false := by simp; omega
      by_cases k1 : p16B s = true
      · by_cases k2 : p16B u = true
        · by_cases k3 : lnB s = true
          · by_cases k4 : lnB u = true
            · by_cases h3 : a ≤ 200
              · obtain ⟨q1, q2⟩ := p16_iff.1 k1
                obtain ⟨q3, q4⟩ := p16_iff.1 k2
                have q5 := prS_of q2 (ln_iff.1 k3)
                have q6 := prS_of q4 (ln_iff.1 k4)
                obtain ⟨d, rfl⟩ : ∃ d : List UInt8, s = ⟨d.toArray⟩ := ⟨s.data.toList, by cases s; simp⟩
                obtain ⟨t, rfl⟩ : ∃ d : List UInt8, u = ⟨d.toArray⟩ := ⟨u.data.toList, by cases u; simp⟩
                exact (tr_main d t a w q5 q6 (by simpa [ByteArray.size] using q1) (by simpa [ByteArray.size] using q3) h3 k1 k2 k3 k4).mono (fun e w' h => h)
              · have d3 : decide ((a : Int) > 200) = true := by simp; omega
                have K1 := Lib.hid k1
                have K2 := Lib.hid k2
                have K3 := Lib.hid k3
                have K4 := Lib.hid k4
                clear k1 k2 k3 k4
                go_enter Tryd.func5, Tryd.ntmps5
                go_wp2_with (first
                  | (go_at_call 18; with_reducible refine (p16_any s _ h1).mono ?_; rintro e w1 ⟨rfl, rfl⟩; rw [K1.out])
                  | (go_at_call 18; with_reducible refine (p16_any u _ h2).mono ?_; rintro e w1 ⟨rfl, rfl⟩; rw [K2.out])
                  | (go_at_call 9; with_reducible refine (ln_any16 s _ (by omega)).mono ?_; rintro e w1 ⟨rfl, rfl⟩; rw [K3.out])
                  | (go_at_call 9; with_reducible refine (ln_any16 u _ (by omega)).mono ?_; rintro e w1 ⟨rfl, rfl⟩; rw [K4.out]))
                go_ret
                exact ⟨rfl, Below.refl _ _⟩
            · have k4 : lnB u = false := by simpa using k4
              have K1 := Lib.hid k1
              have K2 := Lib.hid k2
              have K3 := Lib.hid k3
              have K4 := Lib.hid k4
              clear k1 k2 k3 k4
              go_enter Tryd.func5, Tryd.ntmps5
              go_wp2_with (first
                | (go_at_call 18; with_reducible refine (p16_any s _ h1).mono ?_; rintro e w1 ⟨rfl, rfl⟩; rw [K1.out])
                | (go_at_call 18; with_reducible refine (p16_any u _ h2).mono ?_; rintro e w1 ⟨rfl, rfl⟩; rw [K2.out])
                | (go_at_call 9; with_reducible refine (ln_any16 s _ (by omega)).mono ?_; rintro e w1 ⟨rfl, rfl⟩; rw [K3.out])
                | (go_at_call 9; with_reducible refine (ln_any16 u _ (by omega)).mono ?_; rintro e w1 ⟨rfl, rfl⟩; rw [K4.out]))
              go_ret
              exact ⟨rfl, Below.refl _ _⟩
          · have k3 : lnB s = false := by simpa using k3
            have K1 := Lib.hid k1
            have K2 := Lib.hid k2
            have K3 := Lib.hid k3
            clear k1 k2 k3
            go_enter Tryd.func5, Tryd.ntmps5
            go_wp2_with (first
              | (go_at_call 18; with_reducible refine (p16_any s _ h1).mono ?_; rintro e w1 ⟨rfl, rfl⟩; rw [K1.out])
              | (go_at_call 18; with_reducible refine (p16_any u _ h2).mono ?_; rintro e w1 ⟨rfl, rfl⟩; rw [K2.out])
              | (go_at_call 9; with_reducible refine (ln_any16 s _ (by omega)).mono ?_; rintro e w1 ⟨rfl, rfl⟩; rw [K3.out]))
            go_ret
            exact ⟨rfl, Below.refl _ _⟩
        · have k2 : p16B u = false := by simpa using k2
          have K1 := Lib.hid k1
          have K2 := Lib.hid k2
          clear k1 k2
          go_enter Tryd.func5, Tryd.ntmps5
          go_wp2_with (first
            | (go_at_call 18; with_reducible refine (p16_any s _ h1).mono ?_; rintro e w1 ⟨rfl, rfl⟩; rw [K1.out])
            | (go_at_call 18; with_reducible refine (p16_any u _ h2).mono ?_; rintro e w1 ⟨rfl, rfl⟩; rw [K2.out]))
          go_ret
          exact ⟨rfl, Below.refl _ _⟩
      · have k1 : p16B s = false := by simpa using k1
        have K1 := Lib.hid k1
        clear k1
        go_enter Tryd.func5, Tryd.ntmps5
        go_wp2_with (first
          | (go_at_call 18; with_reducible refine (p16_any s _ h1).mono ?_; rintro e w1 ⟨rfl, rfl⟩; rw [K1.out]))
        go_ret
        exact ⟨rfl, Below.refl _ _⟩
    · have d2 : decide ((u.size : Int) > 2147483647) = true := by simp; omega
      go_enter Tryd.func5, Tryd.ntmps5
      go_wp2_with fail
      go_ret
      exact ⟨rfl, Below.refl _ _⟩
  · have d1 : decide ((s.size : Int) > 2147483647) = true := by simp; omega
    go_enter Tryd.func5, Tryd.ntmps5
    go_wp2_with fail
    go_ret
    exact ⟨rfl, Below.refl _ _⟩
end Go.Proofs.YtpkmamdgpjncoaaDoor
