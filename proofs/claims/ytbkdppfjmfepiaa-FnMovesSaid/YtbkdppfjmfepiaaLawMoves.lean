/- FnMoves: how far a cursor moves is what the reference tells. (Printed by mklawmoves.py.) -/
import Derived.Test.YtbkdppfjmfepiaaMovesJ
import Derived.Test.YtbkdppfjmfepiaaSpecBl
namespace Go.Proofs.Ytbkdppfjmfepiaa
open Go.RowKit
set_option linter.unusedVariables false
set_option linter.unusedSimpArgs false
set_option linter.unnecessarySimpa false
set_option maxRecDepth 100000

set_option maxHeartbeats 4000000 in
theorem lawMoves_any (s : ByteArray) (z n c : Int) (w : World) (hs : s.size ≤ 9223372036854775807) (hz : (Lit.int .i64 z).wf = true) (hn : (Lit.int .i64 n).wf = true) (hc : (Lit.int .i64 c).wf = true) :
    Calls Try.prog 8 #[.agg #[.string s, .int .i64 z], .int .i64 n, .int .i64 c] w fun e w' => e = .returned (.bool true) ∧ Below w.heap.size w w' := by
  have C0 : Hid (∀ w0 w', w0 = w.alloc (.cells #[.string s, .int .i64 z] 47) → Old w0 w' → w'.cell? ⟨w.heap.size, 0, none⟩ = some (.string s) ∧ w'.cell? ⟨w.heap.size, 1, none⟩ = some (.int .i64 z)) := fun w0 w' e o => by
    subst e
    have c0 := (World.cell?_alloc_mark w #[.string s, .int .i64 z] 47 (0, 0) 0).trans rfl
    have c1 := (World.cell?_alloc_mark w #[.string s, .int .i64 z] 47 (0, 0) 1).trans rfl
    have hlt := World.block_lt_of_cell? _ _ c0
    exact ⟨(o.cell hlt).trans c0, (o.cell hlt).trans c1⟩
  have O0 := Lib.hid (Old.alloc w (.cells #[.string s, .int .i64 z] 47))
  clear hz hn hc
  go_enter Try.func8, Try.ntmps8
  go_upto_region 1 with fail
  generalize hW : w.alloc (.cells #[.string s, .int .i64 z] 47) = Wd at O0 ⊢
  obtain ⟨d, hd⟩ : ∃ d, d = w.heap.size := ⟨_, rfl⟩
  rw [← hd]
  have DC : Hid (∀ w', Old Wd w' → w'.cell? ⟨d, 0, none⟩ = some (.string s) ∧ w'.cell? ⟨d, 1, none⟩ = some (.int .i64 z)) := fun w' o => by
    rw [hd]; exact C0.out _ w' hW.symm o
  clear hW hd C0
  obtain ⟨x0, x1⟩ := DC.out Wd (Old.refl _)
  by_cases h1 : s.size ≤ 2147483647
  · have d1 : Hid (decide (s.size ≤ 2147483647) = true) := by unfold Hid; simpa using h1
    cases h2 : drB s z with
    | false =>
      have H2 := Lib.hid h2
      clear h2
      go_wp2_with (first
        | (go_at_call 22; refine (fits_any s z _ (by omega)).mono ?_; rw [d1.out]; rintro e w1 ⟨rfl, o1⟩; have P1 := Lib.hid o1; have D1 := DC.out _ o1; obtain ⟨y0, y1⟩ := D1; clear o1)
        | (go_at_call 23; refine (right_any s z _ (by omega)).mono ?_; rw [H2.out]; rintro e w2 ⟨rfl, o2⟩; have P2 := Lib.hid (P1.out.trans o2); have D2 := DC.out _ P2.out; obtain ⟨t0, t1⟩ := D2; clear o2))
      go_ret
      exact ⟨rfl, O0.out.trans P2.out⟩
    | true =>
      have H2 := Lib.hid h2
      clear h2
      by_cases g1 : n < 0
      · go_wp2_with (first
          | (go_at_call 22; refine (fits_any s z _ (by omega)).mono ?_; rw [d1.out]; rintro e w1 ⟨rfl, o1⟩; have P1 := Lib.hid o1; have D1 := DC.out _ o1; obtain ⟨y0, y1⟩ := D1; clear o1)
          | (go_at_call 23; refine (right_any s z _ (by omega)).mono ?_; rw [H2.out]; rintro e w2 ⟨rfl, o2⟩; have P2 := Lib.hid (P1.out.trans o2); have D2 := DC.out _ P2.out; obtain ⟨t0, t1⟩ := D2; clear o2))
        go_ret
        exact ⟨rfl, O0.out.trans P2.out⟩
      · by_cases g2 : 2000 < n
        · go_wp2_with (first
            | (go_at_call 22; refine (fits_any s z _ (by omega)).mono ?_; rw [d1.out]; rintro e w1 ⟨rfl, o1⟩; have P1 := Lib.hid o1; have D1 := DC.out _ o1; obtain ⟨y0, y1⟩ := D1; clear o1)
            | (go_at_call 23; refine (right_any s z _ (by omega)).mono ?_; rw [H2.out]; rintro e w2 ⟨rfl, o2⟩; have P2 := Lib.hid (P1.out.trans o2); have D2 := DC.out _ P2.out; obtain ⟨t0, t1⟩ := D2; clear o2))
          go_ret
          exact ⟨rfl, O0.out.trans P2.out⟩
        · by_cases g3 : c < 0
          · go_wp2_with (first
              | (go_at_call 22; refine (fits_any s z _ (by omega)).mono ?_; rw [d1.out]; rintro e w1 ⟨rfl, o1⟩; have P1 := Lib.hid o1; have D1 := DC.out _ o1; obtain ⟨y0, y1⟩ := D1; clear o1)
              | (go_at_call 23; refine (right_any s z _ (by omega)).mono ?_; rw [H2.out]; rintro e w2 ⟨rfl, o2⟩; have P2 := Lib.hid (P1.out.trans o2); have D2 := DC.out _ P2.out; obtain ⟨t0, t1⟩ := D2; clear o2))
            go_ret
            exact ⟨rfl, O0.out.trans P2.out⟩
          · by_cases g4 : 2000 < c
            · go_wp2_with (first
                | (go_at_call 22; refine (fits_any s z _ (by omega)).mono ?_; rw [d1.out]; rintro e w1 ⟨rfl, o1⟩; have P1 := Lib.hid o1; have D1 := DC.out _ o1; obtain ⟨y0, y1⟩ := D1; clear o1)
                | (go_at_call 23; refine (right_any s z _ (by omega)).mono ?_; rw [H2.out]; rintro e w2 ⟨rfl, o2⟩; have P2 := Lib.hid (P1.out.trans o2); have D2 := DC.out _ P2.out; obtain ⟨t0, t1⟩ := D2; clear o2))
              go_ret
              exact ⟨rfl, O0.out.trans P2.out⟩
            · obtain ⟨n, rfl⟩ : ∃ m : Nat, n = m := ⟨n.toNat, by omega⟩
              obtain ⟨c, rfl⟩ : ∃ m : Nat, c = m := ⟨c.toNat, by omega⟩
              obtain ⟨l, rfl⟩ : ∃ l, s = tx l := ⟨bs s, (tx_bs s).symm⟩
              obtain ⟨k, rfl, hk, ok, hl⟩ := dr_ok H2.out
              have OK := Lib.hid ok
              clear ok
              cases h5 : belowB l k n with
              | false =>
                have H5 := Lib.hid h5
                clear h5
                go_wp2_with (first
                  | (go_at_call 22; refine (fits_any (tx l) k _ (by omega)).mono ?_; rw [d1.out]; rintro e w1 ⟨rfl, o1⟩; have P1 := Lib.hid o1; have D1 := DC.out _ o1; obtain ⟨y0, y1⟩ := D1; clear o1)
                  | (go_at_call 23; refine (right_any (tx l) k _ (by omega)).mono ?_; rw [H2.out]; rintro e w2 ⟨rfl, o2⟩; have P2 := Lib.hid (P1.out.trans o2); have D2 := DC.out _ P2.out; obtain ⟨t0, t1⟩ := D2; clear o2)
                  | (go_at_call 24; refine (below9_any l k n _ hk OK.out (by omega)).mono ?_; rw [H5.out]; rintro e w3 ⟨rfl, o3⟩; have P3 := Lib.hid (P2.out.trans o3); clear o3))
                go_ret
                exact ⟨rfl, O0.out.trans P3.out⟩
              | true =>
                have hb := (of_decide_eq_true h5).2
                have H5 := Lib.hid h5
                have HB := Lib.hid hb
                clear h5 hb
                have MV0 := fun w' => moves_any l k n c w' hk OK.out (by omega) (by omega) HB.out
                have LF0 := fun w' => left9_any l k w' hk OK.out n (by omega)
                have RT0 := fun w' => right9_any l k w' hk OK.out n (by omega)
                have UP0 := fun w' => up9_any l k w' hk OK.out n c (by omega) (by omega)
                have DN0 := fun w' => down9_any l k w' hk OK.out n c (by omega) (by omega) HB.out
                generalize (-((min n (lineB l k).length : Nat) : Int)) = v1 at MV0 LF0
                generalize ((min n (lineA l k).length : Nat) : Int) = v2 at MV0 RT0
                generalize ((idxP l (row l k - n) c : Int) - (k : Int)) = v3 at MV0 UP0
                generalize ((idxP l (row l k + n) c : Int) - (k : Int)) = v4 at MV0 DN0
                have MV := Lib.hid MV0
                have LF := Lib.hid LF0
                have RT := Lib.hid RT0
                have UP := Lib.hid UP0
                have DN := Lib.hid DN0
                clear MV0 LF0 RT0 UP0 DN0
                go_wp2_with (first
                  | (go_at_call 22; refine (fits_any (tx l) k _ (by omega)).mono ?_; rw [d1.out]; rintro e w1 ⟨rfl, o1⟩; have P1 := Lib.hid o1; have D1 := DC.out _ o1; obtain ⟨y0, y1⟩ := D1; clear o1)
                  | (go_at_call 23; refine (right_any (tx l) k _ (by omega)).mono ?_; rw [H2.out]; rintro e w2 ⟨rfl, o2⟩; have P2 := Lib.hid (P1.out.trans o2); have D2 := DC.out _ P2.out; obtain ⟨t0, t1⟩ := D2; clear o2)
                  | (go_at_call 24; refine (below9_any l k n _ hk OK.out (by omega)).mono ?_; rw [H5.out]; rintro e w3 ⟨rfl, o3⟩; have P3 := Lib.hid (P2.out.trans o3); have D3 := DC.out _ P3.out; obtain ⟨u0, u1⟩ := D3; clear o3)
                  | (go_at_call 25; refine (MV.out _).mono ?_; rintro e w4 ⟨rfl, o4⟩; have P4 := Lib.hid (P3.out.trans o4); have D4 := DC.out _ P4.out; obtain ⟨a0, a1⟩ := D4; clear o4)
                  | (go_at_call 26; refine (LF.out _).mono ?_; rintro e w5 ⟨rfl, o5⟩; have P5 := Lib.hid (P4.out.trans o5); have D5 := DC.out _ P5.out; obtain ⟨f0, f1⟩ := D5; clear o5)
                  | (go_at_call 27; refine (RT.out _).mono ?_; rintro e w6 ⟨rfl, o6⟩; have P6 := Lib.hid (P5.out.trans o6); have D6 := DC.out _ P6.out; obtain ⟨j0, j1⟩ := D6; clear o6)
                  | (go_at_call 28; refine (UP.out _).mono ?_; rintro e w7 ⟨rfl, o7⟩; have P7 := Lib.hid (P6.out.trans o7); have D7 := DC.out _ P7.out; obtain ⟨m0, m1⟩ := D7; clear o7)
                  | (go_at_call 29; refine (DN.out _).mono ?_; rintro e w8 ⟨rfl, o8⟩; have P8 := Lib.hid (P7.out.trans o8); clear o8))
                go_ret
                exact ⟨rfl, O0.out.trans P8.out⟩
  · have d1 : Hid (decide (s.size ≤ 2147483647) = false) := by unfold Hid; simpa using h1
    go_wp2_with (go_at_call 22; refine (fits_any s z _ (by omega)).mono ?_; rw [d1.out]; rintro e w1 ⟨rfl, o1⟩; have O1 := Lib.hid (O0.out.trans o1); clear o1)
    go_ret
    exact ⟨rfl, O1.out⟩
end Go.Proofs.Ytbkdppfjmfepiaa
