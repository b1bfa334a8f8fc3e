/- The reference's words: spec.Start, End. -/
import Derived.Test.YtbkdppfjmfepiaaSpecF
namespace Go.Proofs.Ytbkdppfjmfepiaa
open Go.RowKit
set_option linter.unusedVariables false
set_option linter.unusedSimpArgs false
set_option linter.unnecessarySimpa false
set_option maxRecDepth 100000

theorem startF_any (m S : Bs) (w : World) (hn : m.length ≤ 1000000) (hS : S.length ≤ 1000000) : Calls Try.prog 84 #[.string (tx m), .string (tx S), .bool false] w fun e w' => e = .returned (.int .i64 (wS (setP S false) m)) ∧ w' = w := by
  have hs : (tx m).size = m.length := tx_size m
  have hb := lidx_lt (setP S false) m
  have R : Hid (((wS (setP S false) m : Nat) : Int) = lidx (setP S false) m + 1) := by unfold Hid wS; omega
  have e2 : (tx m).extract 0 m.length = tx m := by rw [ext_pre, List.take_length]
  generalize hx : lidx (setP S false) m = x at hb R
  have HX := Lib.hid hx
  clear hx
  go_enter Try.func84, Try.ntmps84
  go_wp2_with (go_at_call 114; refine (last_any m S false _ hn hS).mono ?_; rw [HX.out]; rintro e w2 ⟨rfl, rfl⟩)
  go_ret
  exact ⟨ret_int R.out, rfl⟩
theorem startT_any (m S : Bs) (w : World) (hn : m.length ≤ 1000000) (hS : S.length ≤ 1000000) : Calls Try.prog 84 #[.string (tx m), .string (tx S), .bool true] w fun e w' => e = .returned (.int .i64 (wSS (setP S false) (setP S true) m)) ∧ w' = w := by
  have hs : (tx m).size = m.length := tx_size m
  have hb := lidx_lt (setP S true) m
  have R : Hid (((wSS (setP S false) (setP S true) m : Nat) : Int) = if lidx (setP S true) m < 0 then (0 : Int) else lidx (setP S false) (m.take (lidx (setP S true) m).toNat) + 1) := by
    have h2 := lidx_lt (setP S false) (m.take (lidx (setP S true) m).toNat)
    unfold Hid wSS; split <;> omega
  generalize hx : lidx (setP S true) m = x at hb R
  have HX := Lib.hid hx
  clear hx
  by_cases h0 : x < 0
  · have R2 : Hid (((wSS (setP S false) (setP S true) m : Nat) : Int) = 0) := by unfold Hid; rw [R.out, if_pos h0]
    go_enter Try.func84, Try.ntmps84
    go_wp2_with (go_at_call 114; refine (last_any m S true _ hn hS).mono ?_; rw [HX.out]; rintro e w2 ⟨rfl, rfl⟩)
    go_ret
    exact ⟨ret_int R2.out, rfl⟩
  · obtain ⟨n, rfl⟩ : ∃ n : Nat, x = n := ⟨x.toNat, by omega⟩
    have e2 : (tx m).extract 0 n = tx (m.take n) := ext_pre
    have i0 : (0 : Int) ≤ n := by omega
    have i1 : (n : Int) ≤ m.length := by omega
    have hn2 : (m.take n).length ≤ 1000000 := by have := List.length_take_le n m; omega
    have hb2 := lidx_lt (setP S false) (m.take n)
    have hb3 : (m.take n).length ≤ m.length := by simp; omega
    have R2 : Hid (((wSS (setP S false) (setP S true) m : Nat) : Int) = lidx (setP S false) (m.take n) + 1) := by
      unfold Hid; have := R.out; rw [if_neg h0] at this; simpa using this
    generalize hy : lidx (setP S false) (m.take n) = y at R2 hb2
    have HY := Lib.hid hy
    clear hy R h0 hb
    go_enter Try.func84, Try.ntmps84
    go_wp2_with (first
      | (go_at_call 114; (with_reducible refine (last_any m S true _ hn hS).mono ?_); rw [HX.out]; rintro e w2 ⟨rfl, rfl⟩)
      | (go_at_call 114; (with_reducible refine (last_any (m.take n) S false _ hn2 hS).mono ?_); rw [HY.out]; rintro e w2 ⟨rfl, rfl⟩))
    go_ret
    exact ⟨ret_int R2.out, rfl⟩
theorem endF_any (m S : Bs) (w : World) (hn : m.length ≤ 1000000) (hS : S.length ≤ 1000000) : Calls Try.prog 85 #[.string (tx m), .string (tx S), .bool false] w fun e w' => e = .returned (.int .i64 (wE (setP S false) m)) ∧ w' = w := by
  have hs : (tx m).size = m.length := tx_size m
  have e2 : (tx m).extract 0 m.length = tx m := by rw [ext_pre, List.take_length]
  have hb := fidx_lt (setP S false) m
  by_cases h0 : 0 ≤ fidx (setP S false) m
  · have R : Hid (fidx (setP S false) m = (wE (setP S false) m : Nat)) := (fidx_flen h0).1
    clear hb h0
    have i0 : (0 : Int) ≤ (wE (setP S false) m : Nat) := by omega
    have hle := wE_le (setP S false) m
    generalize wE (setP S false) m = x at R i0 hle ⊢
    go_enter Try.func85, Try.ntmps85
    go_wp2_with (go_at_call 105; refine (first_any m S false _ hn hS).mono ?_; rw [R.out]; rintro e w2 ⟨rfl, rfl⟩)
    go_ret
    exact ⟨rfl, rfl⟩
  · have R : Hid (fidx (setP S false) m = -1) := (fidx_neg (by omega)).1
    have R2 : Hid (wE (setP S false) m = m.length) := (fidx_neg (p := setP S false) (l := m) (by omega)).2
    clear hb h0
    go_enter Try.func85, Try.ntmps85
    go_wp2_with (go_at_call 105; refine (first_any m S false _ hn hS).mono ?_; rw [R.out]; rintro e w2 ⟨rfl, rfl⟩)
    go_ret
    exact ⟨ret_int (by rw [R2.out]), rfl⟩
theorem endT_any (m S : Bs) (w : World) (hn : m.length ≤ 1000000) (hS : S.length ≤ 1000000) : Calls Try.prog 85 #[.string (tx m), .string (tx S), .bool true] w fun e w' => e = .returned (.int .i64 (wES (setP S false) (setP S true) m)) ∧ w' = w := by
  have hs : (tx m).size = m.length := tx_size m
  have hb := fidx_lt (setP S true) m
  have R : Hid (wES (setP S false) (setP S true) m = if fidx (setP S true) m < 0 then m.length else (fidx (setP S true) m).toNat + flen (setP S false) (m.drop (fidx (setP S true) m).toNat)) := rfl
  generalize hx : fidx (setP S true) m = x at hb R
  have HX := Lib.hid hx
  clear hx
  by_cases h0 : x < 0
  · have R2 : Hid (wES (setP S false) (setP S true) m = m.length) := by unfold Hid; rw [R.out, if_pos h0]
    go_enter Try.func85, Try.ntmps85
    go_wp2_with (go_at_call 105; refine (first_any m S true _ hn hS).mono ?_; rw [HX.out]; rintro e w2 ⟨rfl, rfl⟩)
    go_ret
    exact ⟨ret_int (by rw [R2.out]), rfl⟩
  · obtain ⟨n, rfl⟩ : ∃ n : Nat, x = n := ⟨x.toNat, by omega⟩
    have e2 : (tx m).extract n m.length = tx (m.drop n) := ext_post
    have i0 : (0 : Int) ≤ n := by omega
    have i1 : (n : Int) ≤ m.length := by omega
    have hdl : (m.drop n).length = m.length - n := by simp
    have hn2 : (m.drop n).length ≤ 1000000 := by omega
    have R2 : Hid (wES (setP S false) (setP S true) m = n + flen (setP S false) (m.drop n)) := by
      unfold Hid; have := R.out; rw [if_neg h0] at this; simpa using this
    have hfl := flen_le (setP S false) (m.drop n)
    have hb2 := fidx_lt (setP S false) (m.drop n)
    by_cases h1 : 0 ≤ fidx (setP S false) (m.drop n)
    · have RY : Hid (fidx (setP S false) (m.drop n) = (flen (setP S false) (m.drop n) : Nat)) := (fidx_flen h1).1
      clear hb2 h1 hb h0 R
      generalize flen (setP S false) (m.drop n) = y at RY R2 hfl
      have HN2 := Lib.hid hn2
      have HDL := Lib.hid hdl
      clear hn2 hdl
      have i3 : n + y ≤ m.length := by have := HDL.out; omega
      clear hfl
      go_enter Try.func85, Try.ntmps85
      go_wp2_with (first
        | (go_at_call 105; (with_reducible refine (first_any m S true _ hn hS).mono ?_); rw [HX.out]; rintro e w2 ⟨rfl, rfl⟩)
        | (go_at_call 105; (with_reducible refine (first_any (m.drop n) S false _ HN2.out hS).mono ?_); rw [RY.out]; rintro e w2 ⟨rfl, rfl⟩))
      go_ret
      exact ⟨ret_int (by rw [R2.out]; omega), rfl⟩
    · have RY : Hid (fidx (setP S false) (m.drop n) = -1) := (fidx_neg (by omega)).1
      have R3 : Hid (wES (setP S false) (setP S true) m = m.length) := by
        unfold Hid
        have := (fidx_neg (p := setP S false) (l := m.drop n) (by omega)).2
        rw [R2.out, this]; omega
      have HN2 := Lib.hid hn2
      clear hb2 h1 hb h0 R hn2 hdl hfl
      go_enter Try.func85, Try.ntmps85
      go_wp2_with (first
        | (go_at_call 105; (with_reducible refine (first_any m S true _ hn hS).mono ?_); rw [HX.out]; rintro e w2 ⟨rfl, rfl⟩)
        | (go_at_call 105; (with_reducible refine (first_any (m.drop n) S false _ HN2.out hS).mono ?_); rw [RY.out]; rintro e w2 ⟨rfl, rfl⟩))
      go_ret
      exact ⟨ret_int (by rw [R3.out]), rfl⟩
end Go.Proofs.Ytbkdppfjmfepiaa
