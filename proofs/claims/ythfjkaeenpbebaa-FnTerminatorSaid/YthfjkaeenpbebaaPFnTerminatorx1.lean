-- PRINTED BY print.sh 35421559b90ae4d0a3588c463048766b98c2df88dd9212a6774a882060cdf62d: not written by this session
import Derived.Test.YthfjkaeenpbebaaPFnTerminatorx0
namespace Go.Proofs.Ythfjkaeenpbebaa.PFnTerminator
open Go.RowKit Go.Proofs.YthfjkaeenpbebaaW.PrintWords Go.Proofs.YthfjkaeenpbebaaW.PrintLast Go.Proofs.YthfjkaeenpbebaaW.PrintMore
attribute [local go_sem] max2_int min2_int max_two min_two max_three min_three max_four min_four   -- for this text's walks alone
set_option linter.unusedVariables false
set_option linter.unusedSimpArgs false

/-! ### ansi_IsTerminator: function 24 -/
def ansi_IsTerminator.f (a0 : Int) : Option (Bool) := if a0 ≥ 64 then (if a0 ≤ 90 then (some true) else (if a0 ≥ 97 then (some (decide (a0 ≤ 122))) else (some false))) else (if a0 ≥ 97 then (some (decide (a0 ≤ 122))) else (some false))
set_option maxHeartbeats 8000000 in
set_option maxRecDepth 100000 in
theorem ansi_IsTerminator.calls (a0 : Int) (r : Bool) (w : World) (h : ansi_IsTerminator.f a0 = some r) :
    Calls Try.prog 24 #[.int .i32 a0] w fun e w' => e = .returned (.bool r) ∧ Drawn0 w w' := by
  have H : (if a0 ≥ 64 then (if a0 ≤ 90 then (some true) else (if a0 ≥ 97 then (some (decide (a0 ≤ 122))) else (some false))) else (if a0 ≥ 97 then (some (decide (a0 ≤ 122))) else (some false))) = some r := h
  clear h
  by_cases c2 : a0 ≥ 64
  · rw [if_pos c2] at H
    have c2b0 : decide (64 ≤ a0) = true := decide_eq_true c2
    clear c2
    by_cases c3 : a0 ≤ 90
    · rw [if_pos c3] at H
      have c3b0 : decide (a0 ≤ 90) = true := decide_eq_true c3
      clear c3
      obtain rfl := Option.some.inj H
      go_enter Try.func24, Try.ntmps24
      go_wp2
      go_ret
      exact ⟨by first | rfl | (simp; done) | (simp [*]; done), by repeat (first | exact Drawn0.refl _ | apply Drawn0.step)⟩
    · rw [if_neg c3] at H
      have c3b0 : decide (a0 ≤ 90) = false := decide_eq_false c3
      clear c3
      by_cases c4 : a0 ≥ 97
      · rw [if_pos c4] at H
        have c4b0 : decide (97 ≤ a0) = true := decide_eq_true c4
        clear c4
        obtain rfl := Option.some.inj H
        go_enter Try.func24, Try.ntmps24
        go_wp2
        go_ret
        exact ⟨by first | rfl | (simp; done) | (simp [*]; done), by repeat (first | exact Drawn0.refl _ | apply Drawn0.step)⟩
      · rw [if_neg c4] at H
        have c4b0 : decide (97 ≤ a0) = false := decide_eq_false c4
        clear c4
        obtain rfl := Option.some.inj H
        go_enter Try.func24, Try.ntmps24
        go_wp2
        go_ret
        exact ⟨by first | rfl | (simp; done) | (simp [*]; done), by repeat (first | exact Drawn0.refl _ | apply Drawn0.step)⟩
  · rw [if_neg c2] at H
    have c2b0 : decide (64 ≤ a0) = false := decide_eq_false c2
    clear c2
    by_cases c5 : a0 ≥ 97
    · rw [if_pos c5] at H
      have c5b0 : decide (97 ≤ a0) = true := decide_eq_true c5
      clear c5
      obtain rfl := Option.some.inj H
      go_enter Try.func24, Try.ntmps24
      go_wp2
      go_ret
      exact ⟨by first | rfl | (simp; done) | (simp [*]; done), by repeat (first | exact Drawn0.refl _ | apply Drawn0.step)⟩
    · rw [if_neg c5] at H
      have c5b0 : decide (97 ≤ a0) = false := decide_eq_false c5
      clear c5
      obtain rfl := Option.some.inj H
      go_enter Try.func24, Try.ntmps24
      go_wp2
      go_ret
      exact ⟨by first | rfl | (simp; done) | (simp [*]; done), by repeat (first | exact Drawn0.refl _ | apply Drawn0.step)⟩

/-! ### impl_Terminator: function 9 -/
def impl_Terminator.f (a0 : Int) : Option (Bool) := (ansi_IsTerminator.f a0).bind fun t101 => (some t101)
set_option maxHeartbeats 8000000 in
set_option maxRecDepth 100000 in
theorem impl_Terminator.calls (a0 : Int) (r : Bool) (w : World) (h : impl_Terminator.f a0 = some r) :
    Calls Try.prog 9 #[.int .i32 a0] w fun e w' => e = .returned (.bool r) ∧ Drawn0 w w' := by
  have H : ((ansi_IsTerminator.f a0).bind fun t101 => (some t101)) = some r := h
  clear h
  replace H := Option.bind_eq_some_iff.mp H
  obtain ⟨t101, A20, H⟩ := H
  replace H : (some t101) = some r := H
  have A2 := Aside0.mk A20
  clear A20
  obtain rfl := Option.some.inj H
  go_enter Try.func9, Try.ntmps9
  go_wp2_with (first | ((with_reducible refine gate_callee (f := 24) rfl ?_); refine goesL_ (some 4) rfl rfl Try.func24 (by kernel_rfl) rfl #[.int .i32 a0] rfl (by (try simp only [List.map_toArray, List.map_cons, List.map_nil]); first | done | rfl | (simp only [List.length_drop, List.length_take]; rfl)) ?_; (with_reducible refine (ansi_IsTerminator.calls a0 t101 _ A2.out).mono ?_); rintro e w' ⟨rfl, ⟨nd, rfl⟩⟩; refine ⟨_, rfl, ?_⟩))
  go_ret
  exact ⟨by first | rfl | (simp; done) | (simp [*]; done), by repeat (first | exact Drawn0.refl _ | apply Drawn0.step)⟩

/-! ### laws_FnTerminator: function 3 -/
def laws_FnTerminator.f (a0 : Int) : Option (Bool) := if a0 ≥ 97 then (if a0 ≤ 122 then ((impl_Terminator.f (wrap32 (a0))).bind fun t102 => (if (t102 == true) = true then ((impl_Terminator.f 109).bind fun t103 => (some t103)) else (some false))) else (if a0 ≥ 64 then ((impl_Terminator.f (wrap32 (a0))).bind fun t104 => (if (t104 == (decide (a0 ≤ 90))) = true then ((impl_Terminator.f 109).bind fun t105 => (some t105)) else (some false))) else ((impl_Terminator.f (wrap32 (a0))).bind fun t106 => (if (t106 == false) = true then ((impl_Terminator.f 109).bind fun t107 => (some t107)) else (some false))))) else (if a0 ≥ 64 then ((impl_Terminator.f (wrap32 (a0))).bind fun t108 => (if (t108 == (decide (a0 ≤ 90))) = true then ((impl_Terminator.f 109).bind fun t109 => (some t109)) else (some false))) else ((impl_Terminator.f (wrap32 (a0))).bind fun t110 => (if (t110 == false) = true then ((impl_Terminator.f 109).bind fun t111 => (some t111)) else (some false))))
set_option maxHeartbeats 8000000 in
set_option maxRecDepth 100000 in
theorem laws_FnTerminator.calls (a0 : Int) (r : Bool) (w : World) (h : laws_FnTerminator.f a0 = some r) :
    Calls Try.prog 3 #[.int .u16 a0] w fun e w' => e = .returned (.bool r) ∧ Drawn0 w w' := by
  have H : (if a0 ≥ 97 then (if a0 ≤ 122 then ((impl_Terminator.f (wrap32 (a0))).bind fun t102 => (if (t102 == true) = true then ((impl_Terminator.f 109).bind fun t103 => (some t103)) else (some false))) else (if a0 ≥ 64 then ((impl_Terminator.f (wrap32 (a0))).bind fun t104 => (if (t104 == (decide (a0 ≤ 90))) = true then ((impl_Terminator.f 109).bind fun t105 => (some t105)) else (some false))) else ((impl_Terminator.f (wrap32 (a0))).bind fun t106 => (if (t106 == false) = true then ((impl_Terminator.f 109).bind fun t107 => (some t107)) else (some false))))) else (if a0 ≥ 64 then ((impl_Terminator.f (wrap32 (a0))).bind fun t108 => (if (t108 == (decide (a0 ≤ 90))) = true then ((impl_Terminator.f 109).bind fun t109 => (some t109)) else (some false))) else ((impl_Terminator.f (wrap32 (a0))).bind fun t110 => (if (t110 == false) = true then ((impl_Terminator.f 109).bind fun t111 => (some t111)) else (some false))))) = some r := h
  clear h
  by_cases c2 : a0 ≥ 97
  · rw [if_pos c2] at H
    have c2b0 : decide (97 ≤ a0) = true := decide_eq_true c2
    clear c2
    by_cases c3 : a0 ≤ 122
    · rw [if_pos c3] at H
      have c3b0 : decide (a0 ≤ 122) = true := decide_eq_true c3
      clear c3
      replace H := Option.bind_eq_some_iff.mp H
      obtain ⟨t102, A40, H⟩ := H
      replace H : (if (t102 == true) = true then ((impl_Terminator.f 109).bind fun t103 => (some t103)) else (some false)) = some r := H
      have A4 := Aside0.mk A40
      clear A40
      by_cases c5 : (t102 == true) = true
      · rw [if_pos c5] at H
        have c5b0 : (t102 == true) = true := c5
        (try (have c5b1 : decide (t102 = true) = true := by simpa using c5))
        (try (have c5b2 : (t102 == true) = true := by simpa using c5))
        clear c5
        replace H := Option.bind_eq_some_iff.mp H
        obtain ⟨t103, A60, H⟩ := H
        replace H : (some t103) = some r := H
        have A6 := Aside0.mk A60
        clear A60
        obtain rfl := Option.some.inj H
        go_enter Try.func3, Try.ntmps3
        go_wp2_with (first | ((with_reducible refine gate_callee (f := 9) rfl ?_); refine goesL_ (some 20) rfl rfl Try.func9 (by kernel_rfl) rfl #[.int .i32 (wrap32 (a0))] rfl (by (try simp only [List.map_toArray, List.map_cons, List.map_nil]); first | done | rfl | (simp only [List.length_drop, List.length_take]; rfl)) ?_; (with_reducible refine (impl_Terminator.calls (wrap32 (a0)) t102 _ A4.out).mono ?_); rintro e w' ⟨rfl, ⟨nd, rfl⟩⟩; refine ⟨_, rfl, ?_⟩) | (go_at_call 9; (with_reducible refine (impl_Terminator.calls 109 t103 _ A6.out).mono ?_); rintro e w' ⟨rfl, ⟨nd, rfl⟩⟩))
        go_ret
        exact ⟨by first | rfl | (simp; done) | (simp [*]; done), by repeat (first | exact Drawn0.refl _ | apply Drawn0.step)⟩
      · rw [if_neg c5] at H
        have c5b0 : (t102 == true) = false := by simpa using c5
        (try (have c5b1 : decide (t102 = true) = false := by simpa using c5))
        (try (have c5b2 : (t102 == true) = false := by simpa using c5))
        (try (have c5b3 : ¬ (t102 = true) := by simpa using c5))
        clear c5
        obtain rfl := Option.some.inj H
        go_enter Try.func3, Try.ntmps3
        go_wp2_with (first | ((with_reducible refine gate_callee (f := 9) rfl ?_); refine goesL_ (some 20) rfl rfl Try.func9 (by kernel_rfl) rfl #[.int .i32 (wrap32 (a0))] rfl (by (try simp only [List.map_toArray, List.map_cons, List.map_nil]); first | done | rfl | (simp only [List.length_drop, List.length_take]; rfl)) ?_; (with_reducible refine (impl_Terminator.calls (wrap32 (a0)) t102 _ A4.out).mono ?_); rintro e w' ⟨rfl, ⟨nd, rfl⟩⟩; refine ⟨_, rfl, ?_⟩))
        go_ret
        exact ⟨by first | rfl | (simp; done) | (simp [*]; done), by repeat (first | exact Drawn0.refl _ | apply Drawn0.step)⟩
    · rw [if_neg c3] at H
      have c3b0 : decide (a0 ≤ 122) = false := decide_eq_false c3
      clear c3
      by_cases c7 : a0 ≥ 64
      · rw [if_pos c7] at H
        have c7b0 : decide (64 ≤ a0) = true := decide_eq_true c7
        clear c7
        replace H := Option.bind_eq_some_iff.mp H
        obtain ⟨t104, A80, H⟩ := H
        replace H : (if (t104 == (decide (a0 ≤ 90))) = true then ((impl_Terminator.f 109).bind fun t105 => (some t105)) else (some false)) = some r := H
        have A8 := Aside0.mk A80
        clear A80
        by_cases c9 : (t104 == (decide (a0 ≤ 90))) = true
        · rw [if_pos c9] at H
          have c9b0 : (t104 == (decide (a0 ≤ 90))) = true := c9
          (try (have c9b1 : decide (t104 = (decide (a0 ≤ 90))) = true := by simpa using c9))
          (try (have c9b2 : (t104 == (decide (a0 ≤ 90))) = true := by simpa using c9))
          clear c9
          replace H := Option.bind_eq_some_iff.mp H
          obtain ⟨t105, A100, H⟩ := H
          replace H : (some t105) = some r := H
          have A10 := Aside0.mk A100
          clear A100
          obtain rfl := Option.some.inj H
          go_enter Try.func3, Try.ntmps3
          go_wp2_with (first | ((with_reducible refine gate_callee (f := 9) rfl ?_); refine goesL_ (some 20) rfl rfl Try.func9 (by kernel_rfl) rfl #[.int .i32 (wrap32 (a0))] rfl (by (try simp only [List.map_toArray, List.map_cons, List.map_nil]); first | done | rfl | (simp only [List.length_drop, List.length_take]; rfl)) ?_; (with_reducible refine (impl_Terminator.calls (wrap32 (a0)) t104 _ A8.out).mono ?_); rintro e w' ⟨rfl, ⟨nd, rfl⟩⟩; refine ⟨_, rfl, ?_⟩) | (go_at_call 9; (with_reducible refine (impl_Terminator.calls 109 t105 _ A10.out).mono ?_); rintro e w' ⟨rfl, ⟨nd, rfl⟩⟩))
          go_ret
          exact ⟨by first | rfl | (simp; done) | (simp [*]; done), by repeat (first | exact Drawn0.refl _ | apply Drawn0.step)⟩
        · rw [if_neg c9] at H
          have c9b0 : (t104 == (decide (a0 ≤ 90))) = false := by simpa using c9
          (try (have c9b1 : decide (t104 = (decide (a0 ≤ 90))) = false := by simpa using c9))
          (try (have c9b2 : (t104 == (decide (a0 ≤ 90))) = false := by simpa using c9))
          (try (have c9b3 : ¬ (t104 = (decide (a0 ≤ 90))) := by simpa using c9))
          clear c9
          obtain rfl := Option.some.inj H
          go_enter Try.func3, Try.ntmps3
          go_wp2_with (first | ((with_reducible refine gate_callee (f := 9) rfl ?_); refine goesL_ (some 20) rfl rfl Try.func9 (by kernel_rfl) rfl #[.int .i32 (wrap32 (a0))] rfl (by (try simp only [List.map_toArray, List.map_cons, List.map_nil]); first | done | rfl | (simp only [List.length_drop, List.length_take]; rfl)) ?_; (with_reducible refine (impl_Terminator.calls (wrap32 (a0)) t104 _ A8.out).mono ?_); rintro e w' ⟨rfl, ⟨nd, rfl⟩⟩; refine ⟨_, rfl, ?_⟩))
          go_ret
          exact ⟨by first | rfl | (simp; done) | (simp [*]; done), by repeat (first | exact Drawn0.refl _ | apply Drawn0.step)⟩
      · rw [if_neg c7] at H
        have c7b0 : decide (64 ≤ a0) = false := decide_eq_false c7
        clear c7
        replace H := Option.bind_eq_some_iff.mp H
        obtain ⟨t106, A110, H⟩ := H
        replace H : (if (t106 == false) = true then ((impl_Terminator.f 109).bind fun t107 => (some t107)) else (some false)) = some r := H
        have A11 := Aside0.mk A110
        clear A110
        by_cases c12 : (t106 == false) = true
        · rw [if_pos c12] at H
          have c12b0 : (t106 == false) = true := c12
          (try (have c12b1 : decide (t106 = false) = true := by simpa using c12))
          (try (have c12b2 : (t106 == false) = true := by simpa using c12))
          clear c12
          replace H := Option.bind_eq_some_iff.mp H
          obtain ⟨t107, A130, H⟩ := H
          replace H : (some t107) = some r := H
          have A13 := Aside0.mk A130
          clear A130
          obtain rfl := Option.some.inj H
          go_enter Try.func3, Try.ntmps3
          go_wp2_with (first | ((with_reducible refine gate_callee (f := 9) rfl ?_); refine goesL_ (some 20) rfl rfl Try.func9 (by kernel_rfl) rfl #[.int .i32 (wrap32 (a0))] rfl (by (try simp only [List.map_toArray, List.map_cons, List.map_nil]); first | done | rfl | (simp only [List.length_drop, List.length_take]; rfl)) ?_; (with_reducible refine (impl_Terminator.calls (wrap32 (a0)) t106 _ A11.out).mono ?_); rintro e w' ⟨rfl, ⟨nd, rfl⟩⟩; refine ⟨_, rfl, ?_⟩) | (go_at_call 9; (with_reducible refine (impl_Terminator.calls 109 t107 _ A13.out).mono ?_); rintro e w' ⟨rfl, ⟨nd, rfl⟩⟩))
          go_ret
          exact ⟨by first | rfl | (simp; done) | (simp [*]; done), by repeat (first | exact Drawn0.refl _ | apply Drawn0.step)⟩
        · rw [if_neg c12] at H
          have c12b0 : (t106 == false) = false := by simpa using c12
          (try (have c12b1 : decide (t106 = false) = false := by simpa using c12))
          (try (have c12b2 : (t106 == false) = false := by simpa using c12))
          (try (have c12b3 : ¬ (t106 = false) := by simpa using c12))
          clear c12
          obtain rfl := Option.some.inj H
          go_enter Try.func3, Try.ntmps3
          go_wp2_with (first | ((with_reducible refine gate_callee (f := 9) rfl ?_); refine goesL_ (some 20) rfl rfl Try.func9 (by kernel_rfl) rfl #[.int .i32 (wrap32 (a0))] rfl (by (try simp only [List.map_toArray, List.map_cons, List.map_nil]); first | done | rfl | (simp only [List.length_drop, List.length_take]; rfl)) ?_; (with_reducible refine (impl_Terminator.calls (wrap32 (a0)) t106 _ A11.out).mono ?_); rintro e w' ⟨rfl, ⟨nd, rfl⟩⟩; refine ⟨_, rfl, ?_⟩))
          go_ret
          exact ⟨by first | rfl | (simp; done) | (simp [*]; done), by repeat (first | exact Drawn0.refl _ | apply Drawn0.step)⟩
  · rw [if_neg c2] at H
    have c2b0 : decide (97 ≤ a0) = false := decide_eq_false c2
    clear c2
    by_cases c14 : a0 ≥ 64
    · rw [if_pos c14] at H
      have c14b0 : decide (64 ≤ a0) = true := decide_eq_true c14
      clear c14
      replace H := Option.bind_eq_some_iff.mp H
      obtain ⟨t108, A150, H⟩ := H
      replace H : (if (t108 == (decide (a0 ≤ 90))) = true then ((impl_Terminator.f 109).bind fun t109 => (some t109)) else (some false)) = some r := H
      have A15 := Aside0.mk A150
      clear A150
      by_cases c16 : (t108 == (decide (a0 ≤ 90))) = true
      · rw [if_pos c16] at H
        have c16b0 : (t108 == (decide (a0 ≤ 90))) = true := c16
        (try (have c16b1 : decide (t108 = (decide (a0 ≤ 90))) = true := by simpa using c16))
        (try (have c16b2 : (t108 == (decide (a0 ≤ 90))) = true := by simpa using c16))
        clear c16
        replace H := Option.bind_eq_some_iff.mp H
        obtain ⟨t109, A170, H⟩ := H
        replace H : (some t109) = some r := H
        have A17 := Aside0.mk A170
        clear A170
        obtain rfl := Option.some.inj H
        go_enter Try.func3, Try.ntmps3
        go_wp2_with (first | ((with_reducible refine gate_callee (f := 9) rfl ?_); refine goesL_ (some 20) rfl rfl Try.func9 (by kernel_rfl) rfl #[.int .i32 (wrap32 (a0))] rfl (by (try simp only [List.map_toArray, List.map_cons, List.map_nil]); first | done | rfl | (simp only [List.length_drop, List.length_take]; rfl)) ?_; (with_reducible refine (impl_Terminator.calls (wrap32 (a0)) t108 _ A15.out).mono ?_); rintro e w' ⟨rfl, ⟨nd, rfl⟩⟩; refine ⟨_, rfl, ?_⟩) | (go_at_call 9; (with_reducible refine (impl_Terminator.calls 109 t109 _ A17.out).mono ?_); rintro e w' ⟨rfl, ⟨nd, rfl⟩⟩))
        go_ret
        exact ⟨by first | rfl | (simp; done) | (simp [*]; done), by repeat (first | exact Drawn0.refl _ | apply Drawn0.step)⟩
      · rw [if_neg c16] at H
        have c16b0 : (t108 == (decide (a0 ≤ 90))) = false := by simpa using c16
        (try (have c16b1 : decide (t108 = (decide (a0 ≤ 90))) = false := by simpa using c16))
        (try (have c16b2 : (t108 == (decide (a0 ≤ 90))) = false := by simpa using c16))
        (try (have c16b3 : ¬ (t108 = (decide (a0 ≤ 90))) := by simpa using c16))
        clear c16
        obtain rfl := Option.some.inj H
        go_enter Try.func3, Try.ntmps3
        go_wp2_with (first | ((with_reducible refine gate_callee (f := 9) rfl ?_); refine goesL_ (some 20) rfl rfl Try.func9 (by kernel_rfl) rfl #[.int .i32 (wrap32 (a0))] rfl (by (try simp only [List.map_toArray, List.map_cons, List.map_nil]); first | done | rfl | (simp only [List.length_drop, List.length_take]; rfl)) ?_; (with_reducible refine (impl_Terminator.calls (wrap32 (a0)) t108 _ A15.out).mono ?_); rintro e w' ⟨rfl, ⟨nd, rfl⟩⟩; refine ⟨_, rfl, ?_⟩))
        go_ret
        exact ⟨by first | rfl | (simp; done) | (simp [*]; done), by repeat (first | exact Drawn0.refl _ | apply Drawn0.step)⟩
    · rw [if_neg c14] at H
      have c14b0 : decide (64 ≤ a0) = false := decide_eq_false c14
      clear c14
      replace H := Option.bind_eq_some_iff.mp H
      obtain ⟨t110, A180, H⟩ := H
      replace H : (if (t110 == false) = true then ((impl_Terminator.f 109).bind fun t111 => (some t111)) else (some false)) = some r := H
      have A18 := Aside0.mk A180
      clear A180
      by_cases c19 : (t110 == false) = true
      · rw [if_pos c19] at H
        have c19b0 : (t110 == false) = true := c19
        (try (have c19b1 : decide (t110 = false) = true := by simpa using c19))
        (try (have c19b2 : (t110 == false) = true := by simpa using c19))
        clear c19
        replace H := Option.bind_eq_some_iff.mp H
        obtain ⟨t111, A200, H⟩ := H
        replace H : (some t111) = some r := H
        have A20 := Aside0.mk A200
        clear A200
        obtain rfl := Option.some.inj H
        go_enter Try.func3, Try.ntmps3
        go_wp2_with (first | ((with_reducible refine gate_callee (f := 9) rfl ?_); refine goesL_ (some 20) rfl rfl Try.func9 (by kernel_rfl) rfl #[.int .i32 (wrap32 (a0))] rfl (by (try simp only [List.map_toArray, List.map_cons, List.map_nil]); first | done | rfl | (simp only [List.length_drop, List.length_take]; rfl)) ?_; (with_reducible refine (impl_Terminator.calls (wrap32 (a0)) t110 _ A18.out).mono ?_); rintro e w' ⟨rfl, ⟨nd, rfl⟩⟩; refine ⟨_, rfl, ?_⟩) | (go_at_call 9; (with_reducible refine (impl_Terminator.calls 109 t111 _ A20.out).mono ?_); rintro e w' ⟨rfl, ⟨nd, rfl⟩⟩))
        go_ret
        exact ⟨by first | rfl | (simp; done) | (simp [*]; done), by repeat (first | exact Drawn0.refl _ | apply Drawn0.step)⟩
      · rw [if_neg c19] at H
        have c19b0 : (t110 == false) = false := by simpa using c19
        (try (have c19b1 : decide (t110 = false) = false := by simpa using c19))
        (try (have c19b2 : (t110 == false) = false := by simpa using c19))
        (try (have c19b3 : ¬ (t110 = false) := by simpa using c19))
        clear c19
        obtain rfl := Option.some.inj H
        go_enter Try.func3, Try.ntmps3
        go_wp2_with (first | ((with_reducible refine gate_callee (f := 9) rfl ?_); refine goesL_ (some 20) rfl rfl Try.func9 (by kernel_rfl) rfl #[.int .i32 (wrap32 (a0))] rfl (by (try simp only [List.map_toArray, List.map_cons, List.map_nil]); first | done | rfl | (simp only [List.length_drop, List.length_take]; rfl)) ?_; (with_reducible refine (impl_Terminator.calls (wrap32 (a0)) t110 _ A18.out).mono ?_); rintro e w' ⟨rfl, ⟨nd, rfl⟩⟩; refine ⟨_, rfl, ?_⟩))
        go_ret
        exact ⟨by first | rfl | (simp; done) | (simp [*]; done), by repeat (first | exact Drawn0.refl _ | apply Drawn0.step)⟩

/-- THE ONE PURE STATEMENT of laws_FnTerminator: yours. -/
def laws_FnTerminator.Pure : Prop := ∀ (a0 : Int), (Lit.int .u16 a0).wf = true → laws_FnTerminator.f a0 = some true
theorem laws_FnTerminator.walk (P : laws_FnTerminator.Pure) (a0 : Int) (w : World) (w0 : (Lit.int .u16 a0).wf = true) :
    Calls Try.prog 3 #[.int .u16 a0] w fun e w' => e = .returned (.bool true) ∧ Below w.heap.size w w' := by
  have h := P a0 w0
  refine (laws_FnTerminator.calls a0 true w h).mono ?_
  rintro e w' ⟨rfl, hd⟩
  exact ⟨rfl, hd.below⟩

end Go.Proofs.Ythfjkaeenpbebaa.PFnTerminator
