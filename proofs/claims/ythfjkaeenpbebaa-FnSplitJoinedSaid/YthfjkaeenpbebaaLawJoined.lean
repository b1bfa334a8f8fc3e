/- FnSplitJoined: the walk (the statement is told in the row). -/
import Derived.Test.YthfjkaeenpbebaaSplit
import Derived.Test.YthfjkaeenpbebaaSame
namespace Go.Proofs.Ythfjkaeenpbebaa
open Go.RowKit
set_option linter.unusedVariables false
set_option linter.unusedSimpArgs false
set_option maxRecDepth 100000

/-- Pair k of a list; (0, 0) behind its end. -/
def gp (l : List (Nat × Nat)) (k : Nat) : Nat × Nat := l.getD k (0, 0)
theorem gp_lt {l : List (Nat × Nat)} {k : Nat} (h : k < l.length) : gp l k = l[k] := by simp [gp, List.getD, List.getElem?_eq_getElem h]
theorem gp_left {l m : List (Nat × Nat)} {k : Nat} (h : k < l.length) : gp (l ++ m) k = gp l k := by simp [gp, List.getD, List.getElem?_append, h]
theorem gp_at (l : List (Nat × Nat)) (p : Nat × Nat) : gp (l ++ [p]) l.length = p := by simp [gp, List.getD]
/-- Cuts stand one behind the other, with a blank between. -/
structure Adj (l : List Int) (cs : List (Nat × Nat)) (f : Nat) : Prop where
  first : cs ≠ [] → (gp cs 0).1 = 0
  none : cs = [] → f = 0
  next : ∀ k, k + 1 < cs.length → (gp cs (k + 1)).1 = (gp cs k).2 + 1
  blank : ∀ k, k < cs.length → gi l (gp cs k).2 = 32
  last : ∀ k, k + 1 = cs.length → f = (gp cs k).2 + 1
theorem adj (l : List Int) : ∀ n, Adj l (cutsTo l n).1 (cutsTo l n).2
  | 0 => ⟨fun h => absurd rfl h, fun _ => rfl, fun k h => by simp [cutsTo] at h, fun k h => by simp [cutsTo] at h, fun k h => by simp [cutsTo] at h⟩
  | n + 1 => by
    have ih := adj l n
    by_cases e : gi l n = 32
    · rw [cutsTo_blank e]
      generalize (cutsTo l n).1 = cs at ih
      generalize (cutsTo l n).2 = f at ih
      refine ⟨fun _ => ?_, fun h => by simp at h, fun k hk => ?_, fun k hk => ?_, fun k hk => ?_⟩
      · by_cases hc : cs = []
        · subst hc; rw [ih.none rfl]; rfl
        · rw [gp_left (by have := List.length_pos_iff.2 hc; omega)]; exact ih.first hc
      · simp at hk
        by_cases h2 : k + 1 < cs.length
        · rw [gp_left h2, gp_left (by omega)]; exact ih.next k h2
        · have h3 : k + 1 = cs.length := by omega
          rw [h3, gp_at, gp_left (by omega)]; exact ih.last k h3
      · simp at hk
        by_cases h2 : k < cs.length
        · rw [gp_left h2]; exact ih.blank k h2
        · have h3 : k = cs.length := by omega
          rw [h3, gp_at]; exact e
      · simp at hk
        rw [hk, gp_at]
    · rw [cutsTo_sign e]; exact ih
theorem cuts_first (l : List Int) (n : Nat) : (gp (cuts l n) 0).1 = 0 := by
  have h := adj l n
  unfold cuts
  by_cases hc : (cutsTo l n).1 = []
  · rw [hc, h.none hc]; rfl
  · rw [gp_left (by have := List.length_pos_iff.2 hc; omega)]; exact h.first hc
theorem cuts_next (l : List Int) (n k : Nat) (hk : k + 1 < (cuts l n).length) : (gp (cuts l n) (k + 1)).1 = (gp (cuts l n) k).2 + 1 ∧ gi l (gp (cuts l n) k).2 = 32 := by
  have h := adj l n
  unfold cuts at hk ⊢
  simp at hk
  rw [gp_left (l := (cutsTo l n).1) (k := k) (by omega)]
  refine ⟨?_, h.blank k hk⟩
  by_cases h2 : k + 1 < (cutsTo l n).1.length
  · rw [gp_left h2]; exact h.next k h2
  · have h3 : k + 1 = (cutsTo l n).1.length := by omega
    rw [h3, gp_at]; exact h.last k h3
theorem cuts_last (l : List Int) (n k : Nat) (hk : k + 1 = (cuts l n).length) : gp (cuts l n) k = ((cutsTo l n).2, n) := by
  unfold cuts at hk ⊢
  simp at hk
  rw [hk, gp_at]
theorem gp_in {l : List Int} {n k : Nat} (hk : k < (cuts l n).length) : (gp (cuts l n) k).1 ≤ (gp (cuts l n) k).2 ∧ (gp (cuts l n) k).2 ≤ n := by
  rw [gp_lt hk]; exact cuts_in (List.getElem_mem hk)

/-- How far the first k parts reach. -/
def reach (l : List Int) (n k : Nat) : Nat := if k = 0 then 0 else (gp (cuts l n) (k - 1)).2
theorem extract_join (s : ByteArray) (a b c : Nat) (h1 : a ≤ b) (h2 : b ≤ c) (h3 : c ≤ s.size) : s.extract a b ++ s.extract b c = s.extract a c := by
  rw [ByteArray.extract_append_extract]; congr 1 <;> omega
theorem blank_at (s : ByteArray) (k : Nat) (hk : k < s.size) (h : gi (nums s) k = 32) : s.extract k (k + 1) = ⟨#[32]⟩ := by
  rw [gi_nums hk] at h
  have h8 : s[k] = 32 := by
    apply UInt8.toNat_inj.1
    show s[k].toNat = 32
    omega
  apply ByteArray.ext
  rw [ByteArray.data_extract]
  apply Array.ext
  · simp; have : s.data.size = s.size := rfl; omega
  · intro i h1 h2
    simp at h2
    subst h2
    simp
    exact h8

theorem join_first (s : ByteArray) (n : Nat) (h : n ≤ s.size) : ByteArray.empty ++ gs ((cuts (nums s) n).map (partB s)) 0 = s.extract 0 (reach (nums s) n 1) := by
  have hc := length_cuts (nums s) n
  have e : gs ((cuts (nums s) n).map (partB s)) 0 = partB s (gp (cuts (nums s) n) 0) := by rw [gs_lt (by simp; omega), gp_lt (by omega)]; simp
  rw [e, ByteArray.empty_append]
  unfold partB reach
  rw [cuts_first]; rfl
theorem join_next (s : ByteArray) (n k : Nat) (h : n ≤ s.size) (hk : k + 1 < (cuts (nums s) n).length) :
    s.extract 0 (reach (nums s) n (k + 1)) ++ ⟨#[32]⟩ ++ gs ((cuts (nums s) n).map (partB s)) (k + 1) = s.extract 0 (reach (nums s) n (k + 2)) := by
  have e : gs ((cuts (nums s) n).map (partB s)) (k + 1) = partB s (gp (cuts (nums s) n) (k + 1)) := by rw [gs_lt (by simp; omega), gp_lt (by omega)]; simp
  have hn := cuts_next (nums s) n k hk
  have h1 := gp_in (l := nums s) (n := n) (k := k) (by omega)
  have h2 := gp_in (l := nums s) (n := n) (k := k + 1) hk
  have r1 : reach (nums s) n (k + 1) = (gp (cuts (nums s) n) k).2 := by simp [reach]
  have r2 : reach (nums s) n (k + 2) = (gp (cuts (nums s) n) (k + 1)).2 := by simp [reach]
  rw [e, r1, r2]
  unfold partB
  rw [hn.1]
  generalize (gp (cuts (nums s) n) k).2 = a at *
  generalize (gp (cuts (nums s) n) (k + 1)).2 = b at *
  rw [← blank_at s a (by omega) hn.2, extract_join s 0 a (a + 1) (by omega) (by omega) (by omega), extract_join s 0 (a + 1) b (by omega) (by omega) (by omega)]
theorem join_all (s : ByteArray) (n : Nat) : reach (nums s) n (cuts (nums s) n).length = n := by
  have hc := length_cuts (nums s) n
  unfold reach
  rw [if_neg (by omega), cuts_last _ _ _ (by omega)]
theorem last_size (s : ByteArray) (n : Nat) (h : n ≤ s.size) : (gs ((cuts (nums s) n).map (partB s)) ((cuts (nums s) n).length - 1)).size = n - (cutsTo (nums s) n).2 := by
  have hc := length_cuts (nums s) n
  have e : gs ((cuts (nums s) n).map (partB s)) ((cuts (nums s) n).length - 1) = partB s (gp (cuts (nums s) n) ((cuts (nums s) n).length - 1)) := by rw [gs_lt (by simp; omega), gp_lt (by omega)]; simp
  rw [e, cuts_last _ _ _ (by omega), size_partB (by simpa using h) (cutsTo_le _ _)]

theorem joined_guard (s : ByteArray) (n : Int) (w : World) (hs : s.size ≤ 140737488351232) (h : ¬ (asc9 s = true ∧ 0 ≤ n ∧ n ≤ s.size)) :
    Calls Try.prog 4 #[.string s, .int .i64 n] w fun e w' => e = .returned (.bool true) ∧ Old w w' := by
  have H := Lib.hid h
  clear h
  go_enter Try.func4, Try.ntmps4
  by_cases h1 : 2147483647 < s.size
  · go_wp2_with fail
    go_ret
    exact ⟨rfl, Old.refl _⟩
  cases h3 : asc9 s
  · go_wp2_with (go_at_call 10; refine (ascii9_any _ _ (by omega)).mono ?_; rintro e w1 ⟨rfl, rfl⟩)
    go_ret
    exact ⟨rfl, Old.refl _⟩
  by_cases h4 : n < 0
  · go_wp2_with (go_at_call 10; refine (ascii9_any _ _ (by omega)).mono ?_; rintro e w1 ⟨rfl, rfl⟩)
    go_ret
    exact ⟨rfl, Old.refl _⟩
  by_cases h5 : s.size < n
  · go_wp2_with (go_at_call 10; refine (ascii9_any _ _ (by omega)).mono ?_; rintro e w1 ⟨rfl, rfl⟩)
    go_ret
    exact ⟨rfl, Old.refl _⟩
  exact absurd ⟨h3, by omega, by omega⟩ H.out

set_option maxHeartbeats 1000000 in
theorem joined_main (s : ByteArray) (n : Nat) (w : World) (h1 : asc9 s = true) (hn : n ≤ s.size) :
    Calls Try.prog 4 #[.string s, .int .i64 n] w fun e w' => e = .returned (.bool true) ∧ Old w w' := by
  have hq := asc9_iff.1 h1
  have h300 := hq.2
  have ha := Lib.hid hq.1
  clear hq
  have j0 := Lib.hid (join_first s n hn)
  have j1 := Lib.hid (fun k h => join_next s n k hn h)
  have j2 := Lib.hid (join_all s n)
  have j3 := Lib.hid (last_size s n hn)
  have HN := Lib.hid (length_cuts (nums s) n)
  have hd0 : decide ((n : Int) < 0) = false := by simp
  have hd1 : decide (s.size < n) = false := by simp; omega
  have hd2 : decide ((2147483647 : Int) < (s.size : Int)) = false := by simp; omega
  go_enter Try.func4, Try.ntmps4
  go_wp2_with (first
    | (go_at_call 10; refine (ascii9_any _ _ (by omega)).mono ?_; rintro e w1 ⟨rfl, rfl⟩)
    | (go_at_call 11; refine (splitLine_any _ _ _ h300 ha.out hn).mono ?_; rintro e w2 ⟨v2, rfl, o2, sg⟩; obtain ⟨b2, x2, c2, rfl, hx1, hx2, hx3, hx4⟩ := sg; have O2 := Lib.hid o2; have HX := Lib.hid hx4; clear o2 hx4))
  obtain ⟨m, hm⟩ : ∃ m, m = (cuts (nums s) n).length := ⟨_, rfl⟩
  obtain ⟨parts, hparts⟩ : ∃ parts, parts = (cuts (nums s) n).map (partB s) := ⟨_, rfl⟩
  have hm1 : 1 ≤ m ∧ m ≤ 301 := by have := HN.out; omega
  obtain ⟨hm1, hm2⟩ := hm1
  have hcl : ∀ k, k < m → w2.cell? ⟨b2, x2 + k, none⟩ = some (.string (gs parts k)) := fun k hk => by rw [hparts]; exact HX.out k (by simp; omega)
  have k0 : ByteArray.empty ++ gs parts 0 = s.extract 0 (reach (nums s) n 1) := by rw [hparts]; exact j0.out
  have k1 : ∀ k, k + 1 < m → s.extract 0 (reach (nums s) n (k + 1)) ++ ⟨#[32]⟩ ++ gs parts (k + 1) = s.extract 0 (reach (nums s) n (k + 2)) := fun k hk => by rw [hparts]; exact j1.out k (by omega)
  have k2 : reach (nums s) n m = n := by rw [hm]; exact j2.out
  obtain ⟨q, rfl⟩ : ∃ q, m = q + 1 := ⟨m - 1, by omega⟩
  have k3 : (gs parts q).size = n - (cutsTo (nums s) n).2 := by have := j3.out; rw [← hm, ← hparts] at this; simpa using this
  have k4 : ∀ k, k < q + 1 → (gs parts k).size ≤ 300 := fun k hk => by
    have hin := gp_in (l := nums s) (n := n) (k := k) (by omega)
    have e : gs parts k = partB s (gp (cuts (nums s) n) k) := by rw [hparts, gs_lt (by simp; omega), gp_lt (by omega)]; simp
    rw [e, size_partB (by omega) hin.1]; omega
  have K0 := Lib.hid k0
  have K1 := Lib.hid k1
  have K2 := Lib.hid k2
  have K3 := Lib.hid k3
  have K4 := Lib.hid k4
  have HC := Lib.hid hcl
  rw [← hm]
  have HM := Lib.hid hm
  clear hparts k0 k1 k2 k3 k4 hcl hm hx1 hd0 hd1 hd2
  unfold maxLen at hx2
  generalize hz : n - (cutsTo (nums s) n).2 = z
  have HZ := Lib.hid hz
  clear hz
  go_loop [8, 9, 35] (fun a _ i => ∃ (k : Nat) (acc : ByteArray), k ≤ q + 1 ∧ i = .int .i64 k ∧ a = .string acc ∧ acc.size ≤ 300 ∧ acc = s.extract 0 (reach (nums s) n k)) (fun _ _ i => q + 1 - (intOf i).toNat)
  case atStart => exact ⟨0, ByteArray.empty, Nat.zero_le _, rfl, rfl, by simp, by simp [reach]⟩
  case round =>
    obtain ⟨k, acc, hk, rfl, rfl, hacc, hreach⟩ := hrel
    have HR := Lib.hid hreach
    clear hreach
    have hsz : ∀ r, (s.extract 0 r).size ≤ 300 := fun r => by rw [ByteArray.size_extract]; omega
    have HS := Lib.hid hsz
    clear hsz
    by_cases hkm : k < q + 1
    · have hp := K4.out k hkm
      by_cases hk0 : k = 0
      · have hcell := HC.out 0 (by omega)
        rw [Nat.add_zero] at hcell
        subst hk0
        obtain ⟨pt, hpt⟩ : ∃ pt, pt = gs parts 0 := ⟨_, rfl⟩
        rw [← hpt] at hcell hp
        have HP := Lib.hid hpt
        clear hpt
        have e0 : s.extract 0 (reach (nums s) n 0) = ByteArray.empty := by simp [reach]
        have E : Hid (acc ++ pt = s.extract 0 (reach (nums s) n 1)) := by rw [HR.out, HP.out, e0]; exact K0.out
        clear e0
        go_wp2_with fail
        go_round
        case rel => exact ⟨1, _, by omega, by go_num, rfl, by rw [E.out]; exact HS.out _, E.out⟩
        case measure => simp [intOf]
      · have hcell := HC.out k hkm
        obtain ⟨pt, hpt⟩ : ∃ pt, pt = gs parts k := ⟨_, rfl⟩
        rw [← hpt] at hcell hp
        have HP := Lib.hid hpt
        clear hpt
        have E : Hid (acc ++ ⟨#[32]⟩ ++ pt = s.extract 0 (reach (nums s) n (k + 1))) := by
          obtain ⟨j, rfl⟩ : ∃ j, k = j + 1 := ⟨k - 1, by omega⟩
          rw [HR.out, HP.out]; exact K1.out j (by omega)
        have hs1 : (acc ++ ⟨#[32]⟩).size ≤ 301 := by rw [ByteArray.size_append]; have : (⟨#[32]⟩ : ByteArray).size = 1 := rfl; omega
        go_wp2_with fail
        go_round
        case rel => exact ⟨k + 1, _, by omega, by go_num, rfl, by rw [E.out]; exact HS.out _, E.out⟩
        case measure => simp [intOf]; omega
    · have hcell := HC.out q (by omega)
      have hkq : k = q + 1 := by omega
      have E : Hid (acc = s.extract 0 n) := HR.out.trans (by rw [hkq, K2.out])
      have hz : (gs parts q).size = z := by rw [K3.out, HZ.out]
      obtain ⟨pt, hpt⟩ : ∃ pt, pt = gs parts q := ⟨_, rfl⟩
      rw [← hpt] at hcell hz
      clear hpt
      subst hz
      have hq := E.out
      subst hq
      go_wp2_with fail
      go_ret
      exact ⟨rfl, O2.out⟩

theorem joined_walk (s : ByteArray) (n : Int) (w : World) (hs : s.size ≤ 140737488351232) (hn : (Lit.int .i64 n).wf = true) :
    Calls Try.prog 4 #[.string s, .int .i64 n] w fun e w' => e = .returned (.bool true) ∧ Below w.heap.size w w' := by
  by_cases h : asc9 s = true ∧ 0 ≤ n ∧ n ≤ s.size
  · obtain ⟨k, rfl⟩ : ∃ k : Nat, n = k := ⟨n.toNat, by omega⟩
    exact joined_main s k w h.1 (by omega)
  · exact joined_guard s n w hs h
end Go.Proofs.Ythfjkaeenpbebaa
