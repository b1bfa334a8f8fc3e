/- A document's row and column. -/
import Derived.Test.YtleamondilmojaaDoorDocS
namespace Go.Proofs.YtleamondilmojaaDoor
open Go.RowKit
set_option linter.unusedVariables false
set_option linter.unusedSimpArgs false
set_option linter.unnecessarySimpa false
set_option maxRecDepth 100000

theorem starts_gt (l : Bs) (k : Nat) (h : k ≤ l.length) : row l k + 1 ≤ starts l ∧ ∀ i, i < starts l → ((k : Int) < (start (splitL l) i : Int) ↔ row l k + 1 ≤ i) := by
  obtain ⟨h1, h2, h3⟩ := row_spec l k h
  have hp := splitL_pos l
  have hs : starts l = if 1 < (splitL l).length then (splitL l).length else (splitL l).length + 1 := rfl
  have hle : (splitL l).length ≤ starts l := by rw [hs]; split <;> omega
  have hle2 : starts l ≤ (splitL l).length + 1 := by rw [hs]; split <;> omega
  refine ⟨by omega, fun i hi => ⟨fun hlt => ?_, fun hge => ?_⟩⟩
  · rcases Nat.lt_or_ge (row l k) i with h | h
    · exact h
    · have := start_mono (L := splitL l) (a := i) (row l k - i) (by omega)
      rw [show i + (row l k - i) = row l k by omega] at this
      omega
  · rcases Nat.lt_or_ge (splitL l).length i with h | h
    · omega
    · have := start_mono (L := splitL l) (a := row l k + 1) (i - (row l k + 1)) (by omega)
      rw [show row l k + 1 + (i - (row l k + 1)) = i by omega] at this
      omega
theorem start_le {l : Bs} {k : Nat} (h : k ≤ l.length) : start (splitL l) (row l k) ≤ k := (row_spec l k h).2.1

section
variable (p : Nat) (l : Bs) (k : Nat) (w : World) (h : DP w p l k) (hk : k ≤ l.length) (ok : okT l)
include h hk ok
theorem find_any : Calls Tryd.prog 68 #[.pointer (some ⟨p, 0, none⟩), .int .i64 k] w fun e w' => e = .returned (.tuple #[.int .i64 (row l k), .int .i64 (start (splitL l) (row l k))]) ∧ Old w w' := by
  have H := Lib.hid h
  have OK := Lib.hid ok
  have hn := ok.n
  have G := Lib.hid (starts_gt l k hk)
  have hsz := splitL_size l
  have hst : starts l ≤ 1000002 := by
    have hs : starts l = if 1 < (splitL l).length then (splitL l).length else (splitL l).length + 1 := rfl
    rw [hs]; split <;> omega
  have hr : row l k + 1 ≤ starts l := G.out.1
  obtain ⟨r, hr_⟩ : ∃ r, r = row l k := ⟨_, rfl⟩
  rw [← hr_] at G hr ⊢
  obtain ⟨n, hn_⟩ : ∃ n, n = starts l := ⟨_, rfl⟩
  have STA := st_any p l k w h ok
  rw [← hn_] at G hr hst STA
  have ST := Lib.hid STA
  have e1 : IntKind.i64.wrap (((r + 1 : Nat) : Int) - 1) = (r : Int) := by rw [IntWalk.i64_in _ (by omega)]; omega
  have i0 : (0 : Int) ≤ r := by omega
  have i1 : (r : Int) < n := by omega
  clear h ok STA hr_ hn_
  go_enter Tryd.func68, Tryd.ntmps68
  go_wp2_with (first
    | (go_at_call 94; refine ST.out.mono ?_; rintro e w1 ⟨v, rfl, o1, r1⟩; have O1 := Lib.hid o1; have R1 := Lib.hid r1; clear o1 r1)
    | (go_at_call 95; refine (bis_any v n (r + 1) _ k w1 R1.out hst hr G.out.2).mono ?_; rintro e w2 ⟨rfl, o2⟩; have O2 := Lib.hid (O1.out.trans o2); obtain ⟨b, c, rfl, q1, q2, q3, q4⟩ := R1.out.old o2; have c4 := q4 r (by omega); unfold maxLen at q2; dsimp only at c4; clear o2 q4))
  go_ret2
  exact ⟨rfl, O2.out⟩
theorem row_any : Calls Tryd.prog 41 #[.pointer (some ⟨p, 0, none⟩)] w fun e w' => e = .returned (.int .i64 (row l k)) ∧ Old w w' := by
  have H := Lib.hid h
  have OK := Lib.hid ok
  have c1 := h.c1
  clear h ok
  go_enter Tryd.func41, Tryd.ntmps41
  go_wp2_with (go_at_call 68; refine (find_any p l k _ H.out hk OK.out).mono ?_; rintro e w1 ⟨rfl, o1⟩; have O1 := Lib.hid o1; clear o1)
  go_ret
  exact ⟨rfl, O1.out⟩
theorem col_any : Calls Tryd.prog 42 #[.pointer (some ⟨p, 0, none⟩)] w fun e w' => e = .returned (.int .i64 (lineB l k).length) ∧ Old w w' := by
  have H := Lib.hid h
  have OK := Lib.hid ok
  have c1 := h.c1
  have hlen := lineB_len hk
  have hn := ok.n
  have e1 : IntKind.i64.wrap ((k : Int) - (start (splitL l) (row l k) : Int)) = ((lineB l k).length : Int) := by rw [IntWalk.i64_in _ (by omega)]; omega
  clear h ok
  go_enter Tryd.func42, Tryd.ntmps42
  go_wp2_with (go_at_call 68; refine (find_any p l k _ H.out hk OK.out).mono ?_; rintro e w1 ⟨rfl, o1⟩; have O1 := Lib.hid o1; have d1 := (H.out.old o1).c1; clear o1)
  go_ret
  exact ⟨ret_int (by omega), O1.out⟩
theorem onlast_any : Calls Tryd.prog 44 #[.pointer (some ⟨p, 0, none⟩)] w fun e w' => e = .returned (.bool (decide (row l k + 1 = (splitL l).length))) ∧ Old w w' := by
  have H := Lib.hid h
  have OK := Lib.hid ok
  have hp := splitL_pos l
  have hsz := splitL_size l
  have hn := ok.n
  have hrw := (row_spec l k hk).1
  have e1 : IntKind.i64.wrap (((splitL l).length : Int) - 1) = ((splitL l).length : Int) - 1 := IntWalk.i64_in _ (by omega)
  have e2 : ((row l k : Int) == ((splitL l).length : Int) - 1) = decide (row l k + 1 = (splitL l).length) := by
    rw [Bool.eq_iff_iff]; simp; omega
  have E2 := Lib.hid e2
  clear h ok e2
  go_enter Tryd.func44, Tryd.ntmps44
  go_wp2_with (first
    | (go_at_call 41; refine (row_any p l k _ H.out hk OK.out).mono ?_; rintro e w1 ⟨rfl, o1⟩; have O1 := Lib.hid o1; clear o1)
    | (go_at_call 69; refine (lc_any p l k _ (H.out.old O1.out) OK.out).mono ?_; rintro e w2 ⟨rfl, o2⟩; have O2 := Lib.hid (O1.out.trans o2); clear o2))
  go_ret
  exact ⟨ret_bool E2.out.symm, O2.out⟩
end
end Go.Proofs.YtleamondilmojaaDoor
