/- Places of rows and columns in a text; a document's cursor to the left, to the right, up, down. -/
import Derived.Test.YtleamondilmojaaDoorDocR
namespace Go.Proofs.YtleamondilmojaaDoor
open Go.RowKit
set_option linter.unusedVariables false
set_option linter.unusedSimpArgs false
set_option linter.unnecessarySimpa false
set_option maxRecDepth 100000

/-- The place of a row and a column. -/
def idxP (l : Bs) (r c : Nat) : Nat := start (splitL l) r + min c (line (splitL l) r).length
theorem idx_le {l : Bs} {r : Nat} (h : r < (splitL l).length) : start (splitL l) r + (line (splitL l) r).length ≤ l.length := by
  have h1 := start_succ h
  obtain ⟨d, hd⟩ : ∃ d, (splitL l).length = r + 1 + d := ⟨(splitL l).length - (r + 1), by omega⟩
  have h2 := start_mono (L := splitL l) (a := r + 1) d (by omega)
  rw [← hd, start_all] at h2
  omega
theorem idxP_le {l : Bs} {r : Nat} (c : Nat) (h : r < (splitL l).length) : idxP l r c ≤ l.length := by
  have := idx_le h
  unfold idxP
  omega

section
variable (p : Nat) (l : Bs) (k : Nat) (w : World) (h : DP w p l k) (hk : k ≤ l.length) (ok : okT l)
include h hk ok
set_option maxHeartbeats 1000000 in
theorem tri_any (r c : Nat) (hr : r < (splitL l).length) (hc : c ≤ 1000000) : Calls Tryd.prog 131 #[.pointer (some ⟨p, 0, none⟩), .int .i64 r, .int .i64 c] w fun e w' => e = .returned (.int .i64 (idxP l r c)) ∧ Old w w' := by
  have hkk := hk
  clear hkk
  have H := Lib.hid h
  have OK := Lib.hid ok
  have hn := ok.n
  have hsz := splitL_size l
  have hle := idx_le hr
  have hst : (splitL l).length ≤ starts l := by
    have hs : starts l = if 1 < (splitL l).length then (splitL l).length else (splitL l).length + 1 := rfl
    rw [hs]; split <;> omega
  have R : Hid (idxP l r c = start (splitL l) r + min c (line (splitL l) r).length) := rfl
  obtain ⟨a, ha⟩ : ∃ a, a = start (splitL l) r := ⟨_, rfl⟩
  obtain ⟨m, hm⟩ : ∃ m, m = line (splitL l) r := ⟨_, rfl⟩
  rw [← ha, ← hm] at hle R
  have HA := Lib.hid ha
  have HM := Lib.hid hm
  have hs : (tx m).size = m.length := tx_size m
  have hs2 : (tx l).size = l.length := tx_size l
  obtain ⟨n, hn_⟩ : ∃ n, n = starts l := ⟨_, rfl⟩
  have STA := st_any p l k w h ok
  rw [← hn_] at hst STA
  have ST := Lib.hid STA
  have i0 : (0 : Int) ≤ r := by omega
  have i1 : (r : Int) < n := by omega
  have i2 : (r : Int) < (splitL l).length := by omega
  clear h ok STA hn_ ha hm
  by_cases hcm : m.length < c
  · have E : Hid (idxP l r c = a + m.length) := by unfold Hid; rw [R.out]; omega
    have d1 : decide ((c : Int) > m.length) = true := by simpa using hcm
    go_enter Tryd.func131, Tryd.ntmps131
    go_wp2_with (first
      | (go_at_call 94; refine ST.out.mono ?_; rintro e w1 ⟨v, rfl, o1, r1⟩; have O1 := Lib.hid o1; obtain ⟨b, vc, rfl, q1, q2, q3, q4⟩ := r1; have c4 := q4 r (by omega); unfold maxLen at q2; dsimp only at c4; rw [← HA.out] at c4; clear o1 q4)
      | (go_at_call 43; refine (lines_any p l k _ (H.out.old O1.out) OK.out).mono ?_; rintro e w2 ⟨lv, rfl, o2, r2⟩; obtain ⟨vb, vc2, rfl, b1, b2, b3, b4, cells⟩ := lineVs_at r2 (splitL_pos l); have O2 := Lib.hid (O1.out.trans o2); have g0 := cells r hr; rw [← HM.out] at g0; have t0 := (H.out.old O2.out).c0; have t1 := (H.out.old O2.out).c1; clear o2 r2 cells))
    go_ret
    exact ⟨ret_int (by rw [E.out]; omega), O2.out⟩
  · have E : Hid (idxP l r c = a + c) := by unfold Hid; rw [R.out]; omega
    have d1 : decide ((c : Int) > m.length) = false := by simpa using hcm
    go_enter Tryd.func131, Tryd.ntmps131
    go_wp2_with (first
      | (go_at_call 94; refine ST.out.mono ?_; rintro e w1 ⟨v, rfl, o1, r1⟩; have O1 := Lib.hid o1; obtain ⟨b, vc, rfl, q1, q2, q3, q4⟩ := r1; have c4 := q4 r (by omega); unfold maxLen at q2; dsimp only at c4; rw [← HA.out] at c4; clear o1 q4)
      | (go_at_call 43; refine (lines_any p l k _ (H.out.old O1.out) OK.out).mono ?_; rintro e w2 ⟨lv, rfl, o2, r2⟩; obtain ⟨vb, vc2, rfl, b1, b2, b3, b4, cells⟩ := lineVs_at r2 (splitL_pos l); have O2 := Lib.hid (O1.out.trans o2); have g0 := cells r hr; rw [← HM.out] at g0; have t0 := (H.out.old O2.out).c0; have t1 := (H.out.old O2.out).c1; clear o2 r2 cells))
    all_goals
      go_ret
      exact ⟨ret_int (by rw [E.out]; omega), O2.out⟩
end
end Go.Proofs.YtleamondilmojaaDoor
