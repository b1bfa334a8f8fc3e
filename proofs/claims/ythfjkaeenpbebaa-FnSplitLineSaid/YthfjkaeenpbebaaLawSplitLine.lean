/- FnSplitLine: the walk (the statement is told in the row). -/
import Derived.Test.YthfjkaeenpbebaaParts
import Derived.Test.YthfjkaeenpbebaaSame
namespace Go.Proofs.Ythfjkaeenpbebaa
open Go.RowKit
set_option linter.unusedVariables false
set_option linter.unusedSimpArgs false
set_option maxRecDepth 100000

theorem sl_guard (s : ByteArray) (n : Int) (w : World) (hs : s.size ≤ 140737488351232) (h : ¬ (asc9 s = true ∧ 0 ≤ n ∧ n ≤ s.size)) :
    Calls Try.prog 5 #[.string s, .int .i64 n] w fun e w' => e = .returned (.bool true) ∧ Old w w' := by
  have H := Lib.hid h
  clear h
  go_enter Try.func5, Try.ntmps5
  by_cases h1 : 2147483647 < s.size
  · go_wp2_with fail
    go_ret
    exact ⟨rfl, Old.refl _⟩
  cases h3 : asc9 s
  · go_wp2_with (go_at_call 10; refine (ascii9_any _ _ (by omega)).mono ?_; rintro e w1 ⟨rfl, rfl⟩)
    go_ret
    exact ⟨rfl, Old.refl _⟩
  by_cases h4 : n < 0
  · go_wp2_with (go_at_call 10; refine (ascii9_any _ _ (by omega)).mono ?_; rintro e w1 ⟨rfl, rfl⟩)
    go_ret
    exact ⟨rfl, Old.refl _⟩
  by_cases h5 : s.size < n
  · go_wp2_with (go_at_call 10; refine (ascii9_any _ _ (by omega)).mono ?_; rintro e w1 ⟨rfl, rfl⟩)
    go_ret
    exact ⟨rfl, Old.refl _⟩
  exact absurd ⟨h3, by omega, by omega⟩ H.out

theorem part_take {s : ByteArray} {n : Nat} (hn : n ≤ s.size) {p : Nat × Nat} (h : p.2 ≤ n) : partB (s.extract 0 n) p = partB s p := by
  unfold partB
  rw [ByteArray.extract_extract]
  congr 1 <;> omega
theorem nums_take {s : ByteArray} {n k : Nat} (hn : n ≤ s.size) (h : k < n) : gi (nums (s.extract 0 n)) k = gi (nums s) k := by
  have e : s.extract 0 n = partB s (0, n) := rfl
  rw [e, nums_partB, gi_part (by simpa using h)]
  simp
theorem cuts_take (s : ByteArray) (n : Nat) (hn : n ≤ s.size) : ∀ k, k ≤ n → cutsTo (nums (s.extract 0 n)) k = cutsTo (nums s) k
  | 0, _ => rfl
  | k + 1, h => by
    have ih := cuts_take s n hn k (by omega)
    simp only [cutsTo, ih, nums_take hn (show k < n by omega)]
theorem parts_take (s : ByteArray) (n : Nat) (hn : n ≤ s.size) : (cuts (nums (s.extract 0 n)) (s.extract 0 n).size).map (partB (s.extract 0 n)) = (cuts (nums s) n).map (partB s) := by
  have hsz : (s.extract 0 n).size = n := by rw [ByteArray.size_extract]; omega
  rw [hsz]
  have e : cuts (nums (s.extract 0 n)) n = cuts (nums s) n := by unfold cuts; rw [cuts_take s n hn n (Nat.le_refl _)]
  rw [e]
  apply List.map_congr_left
  intro p hp
  exact part_take hn (cuts_in hp).2
theorem last_part (s : ByteArray) (n : Nat) (h : n ≤ s.size) : (gs ((cuts (nums s) n).map (partB s)) ((cuts (nums s) n).length - 1)).size = n - (cutsTo (nums s) n).2 := by
  have e : gs ((cuts (nums s) n).map (partB s)) ((cuts (nums s) n).length - 1) = partB s ((cutsTo (nums s) n).2, n) := by
    unfold cuts gs; simp [List.getD]
  rw [e, size_partB (by simpa using h) (cutsTo_le _ _)]

set_option maxHeartbeats 1000000 in
theorem sl_main (s : ByteArray) (n : Nat) (w : World) (h1 : asc9 s = true) (hn : n ≤ s.size) :
    Calls Try.prog 5 #[.string s, .int .i64 n] w fun e w' => e = .returned (.bool true) ∧ Old w w' := by
  have hq := asc9_iff.1 h1
  have h300 := hq.2
  have ha := Lib.hid hq.1
  have hb := Lib.hid (asc_partB hq.1 (0, n))
  clear hq
  have pt := Lib.hid (parts_take s n hn)
  have lp := Lib.hid (last_part s n hn)
  have HN := Lib.hid (length_cuts (nums s) n)
  have hsz : (s.extract 0 n).size ≤ 300 := by rw [ByteArray.size_extract]; omega
  have HS := Lib.hid hsz
  clear hsz
  have hd0 : decide ((n : Int) < 0) = false := by simp
  have hd1 : decide (s.size < n) = false := by simp; omega
  have hd2 : decide ((2147483647 : Int) < (s.size : Int)) = false := by simp; omega
  obtain ⟨L, hL⟩ : ∃ L, L = (cuts (nums s) n).map (partB s) := ⟨_, rfl⟩
  rw [← hL] at pt lp
  obtain ⟨q, hq⟩ : ∃ q, L.length = q + 1 := ⟨L.length - 1, by have := HN.out; rw [hL]; simp; omega⟩
  have HL := Lib.hid hL
  have HQ := Lib.hid hq
  have hz : (gs L q).size = n - (cutsTo (nums s) n).2 := by
    have h2 := lp.out
    have h3 : (cuts (nums s) n).length = q + 1 := by rw [← hq, hL]; simp
    rw [h3] at h2; exact h2
  have HZ := Lib.hid hz
  have hq301 : q ≤ 301 := by have := HN.out; have h3 : (cuts (nums s) n).length = q + 1 := (by rw [← hq, hL]; simp); omega
  clear hL hq hz
  go_enter Try.func5, Try.ntmps5
  go_wp2_with (first
    | (go_at_call 10; refine (ascii9_any _ _ (by omega)).mono ?_; rintro e w1 ⟨rfl, rfl⟩)
    | (go_at_call 12; refine (parts_any (s.extract 0 n) _ hb.out HS.out).mono ?_; rintro e w1 ⟨v1, rfl, o1, sg⟩; rw [pt.out] at sg; have O1 := Lib.hid o1; have S1 := Lib.hid sg; obtain ⟨b1, x1, c1, rfl, hx1, hx2, hx3, hx4⟩ := sg; have HX := Lib.hid hx4; clear o1 hx4; have S1 : Hid (StrsAt w1 (.slice (some ⟨b1, x1, none⟩) (q + 1) c1) L) := (by have h := S1.out; rw [HQ.out] at h; exact h); rw [HQ.out])
    | (go_at_call 11; refine (splitLine_any _ _ _ h300 ha.out hn).mono ?_; rintro e w2 ⟨v2, rfl, o2, sg⟩; rw [← HL.out, ← HZ.out] at *; have O2 := Lib.hid o2; have S2 := Lib.hid sg; clear o2 sg)
    | (go_at_call 13; refine (sameTexts9_any _ _ L L _ S2.out (S1.out.later O2.out)).mono ?_; rintro e w3 ⟨rfl, o3⟩; have hc := ((O2.out.trans o3).cell (o := x1 + q) hx3).trans (HX.out q (by rw [HQ.out]; omega)); have O3 := Lib.hid o3; clear o3))
  go_ret
  exact ⟨rfl, (O1.out.trans O2.out).trans O3.out⟩

theorem sl_walk (s : ByteArray) (n : Int) (w : World) (hs : s.size ≤ 140737488351232) (hn : (Lit.int .i64 n).wf = true) :
    Calls Try.prog 5 #[.string s, .int .i64 n] w fun e w' => e = .returned (.bool true) ∧ Below w.heap.size w w' := by
  by_cases h : asc9 s = true ∧ 0 ≤ n ∧ n ≤ s.size
  · obtain ⟨k, rfl⟩ : ∃ k : Nat, n = k := ⟨n.toNat, by omega⟩
    exact sl_main s k w h.1 (by omega)
  · exact sl_guard s n w hs h
end Go.Proofs.Ythfjkaeenpbebaa
