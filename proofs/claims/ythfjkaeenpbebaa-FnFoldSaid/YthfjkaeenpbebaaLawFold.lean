/- FnFold: the walk (the statement is told in the row). -/
import Derived.Test.YthfjkaeenpbebaaSame
namespace Go.Proofs.Ythfjkaeenpbebaa
open Go.RowKit
set_option linter.unusedVariables false
set_option linter.unusedSimpArgs false
set_option maxRecDepth 100000

theorem eqRune_up {x y : Int} (hx0 : 0 ≤ x) (hx : x < 128) (hy0 : 0 ≤ y) (hy : y < 128) : eqRune x y true = true ↔ upN x = upN y := by
  unfold eqRune upN
  simp only [Bool.true_and, Bool.or_eq_true, decide_eq_true_eq, beq_iff_eq]
  split <;> split <;> omega
theorem eqRune_refl (x : Int) : eqRune x x true = true := by simp [eqRune]
theorem eqRune_symm (x y : Int) : eqRune x y true = eqRune y x true := by
  unfold eqRune
  rw [Bool.eq_iff_iff]
  simp only [Bool.true_and, Bool.or_eq_true, decide_eq_true_eq, beq_iff_eq]
  omega
theorem foldEq_of_eq {a b : List Int} (h : a = b) : foldEq a b := by subst h; exact ⟨rfl, fun k _ => eqRune_refl _⟩
theorem foldEq_symm {a b : List Int} : foldEq a b ↔ foldEq b a := by
  constructor <;> exact fun h => ⟨h.1.symm, fun k hk => by have := h.1; rw [eqRune_symm]; exact h.2 k (by omega)⟩
theorem nums_bound {s : ByteArray} (h : asc s) (k : Nat) : 0 ≤ gi (nums s) k ∧ gi (nums s) k < 128 := by
  by_cases hk : k < s.size
  · rw [gi_nums hk]; have := h k hk; omega
  · simp [gi, List.getD, List.getElem?_eq_none (show (nums s).length ≤ k by rw [length_nums]; omega)]
theorem asc_upB {s : ByteArray} (h : asc s) : asc (upB s) := fun k hk => by
  have hk' : k < s.size := by rw [← size_upB]; exact hk
  have e := gi_upB hk'
  rw [gi_nums hk] at e
  have hb := nums_bound h k
  unfold upN at e
  split at e <;> omega
theorem foldEq_up {a b : ByteArray} (ha : asc a) (hb : asc b) : foldEq (nums a) (nums b) ↔ nums (upB a) = nums (upB b) := by
  constructor
  · intro h
    have hl : a.size = b.size := by have := h.1; rwa [length_nums, length_nums] at this
    apply gi_ext (by rw [length_nums, length_nums, size_upB, size_upB]; exact hl)
    intro k hk
    rw [length_nums, size_upB] at hk
    rw [gi_upB hk, gi_upB (by omega)]
    have x := nums_bound ha k
    have y := nums_bound hb k
    exact (eqRune_up x.1 x.2 y.1 y.2).1 (h.2 k (by rw [length_nums]; exact hk))
  · intro h
    have hl : a.size = b.size := by have := congrArg List.length h; rwa [length_nums, length_nums, size_upB, size_upB] at this
    refine ⟨by rw [length_nums, length_nums]; exact hl, fun k hk => ?_⟩
    rw [length_nums] at hk
    have x := nums_bound ha k
    have y := nums_bound hb k
    rw [eqRune_up x.1 x.2 y.1 y.2, ← gi_upB hk, ← gi_upB (by omega), h]
theorem foldEq_upB {a : ByteArray} (ha : asc a) : foldEq (nums a) (nums (upB a)) := by
  refine ⟨by rw [length_nums, length_nums, size_upB], fun k hk => ?_⟩
  rw [length_nums] at hk
  have x := nums_bound ha k
  have y := nums_bound (asc_upB ha) k
  rw [eqRune_up x.1 x.2 y.1 y.2, gi_upB hk]
  unfold upN
  (repeat' split) <;> omega

/-- What the four comparisons tell of texts of ASCII. -/
theorem fold_facts {a b : ByteArray} (ha : asc a) (hb : asc b) :
    sameR a b true = sameR (upB a) (upB b) false ∧ (sameR a b false = true → sameR a b true = true) ∧ sameR a (upB a) true = true ∧ sameR b a true = sameR a b true := by
  simp only [sameR_true, sameR_false, runes_asc ha, runes_asc hb, runes_asc (asc_upB ha), runes_asc (asc_upB hb)]
  refine ⟨?_, fun h => ?_, ?_, ?_⟩
  · rw [decide_eq_decide]; exact foldEq_up ha hb
  · rw [decide_eq_true_eq] at h ⊢; exact foldEq_of_eq h
  · rw [decide_eq_true_eq]; exact foldEq_upB ha
  · rw [decide_eq_decide]; exact foldEq_symm

theorem law_guard (a b : ByteArray) (w : World) (ha : a.size ≤ 140737488351232) (hb : b.size ≤ 140737488351232) (h : ¬ (asc9 a = true ∧ asc9 b = true)) :
    Calls Try.prog 7 #[.string a, .string b] w fun e w' => e = .returned (.bool true) ∧ Old w w' := by
  have H := Lib.hid h
  clear h
  go_enter Try.func7, Try.ntmps7
  by_cases h1 : 2147483647 < a.size
  · go_wp2
    go_ret
    exact ⟨rfl, Old.refl _⟩
  by_cases h2 : 2147483647 < b.size
  · go_wp2
    go_ret
    exact ⟨rfl, Old.refl _⟩
  cases h3 : asc9 a
  · go_wp2_with (go_at_call 10; refine (ascii9_any _ _ (by omega)).mono ?_; rintro e w1 ⟨rfl, rfl⟩)
    go_ret
    exact ⟨rfl, Old.refl _⟩
  cases h4 : asc9 b
  · go_wp2_with (go_at_call 10; refine (ascii9_any _ _ (by omega)).mono ?_; rintro e w1 ⟨rfl, rfl⟩)
    go_ret
    exact ⟨rfl, Old.refl _⟩
  exact absurd ⟨h3, h4⟩ H.out

set_option maxHeartbeats 1000000 in
theorem law_main (a b : ByteArray) (w : World) (h1 : asc9 a = true) (h2 : asc9 b = true) :
    Calls Try.prog 7 #[.string a, .string b] w fun e w' => e = .returned (.bool true) ∧ Old w w' := by
  have ha := asc9_iff.1 h1
  have hb := asc9_iff.1 h2
  obtain ⟨f1, f2, f3, f4⟩ := fold_facts ha.1 hb.1
  have sa := ha.2
  have sb := hb.2
  have sxa : (upB a).size ≤ 300 := by rw [size_upB]; exact sa
  have sxb : (upB b).size ≤ 300 := by rw [size_upB]; exact sb
  clear ha hb
  have F2 := Lib.hid f2
  clear f2
  go_enter Try.func7, Try.ntmps7
  cases hp : sameR a b true <;> cases hq : sameR a b false
  all_goals rw [hp] at f1 f4
  all_goals replace f1 := f1.symm
  all_goals
    go_wp2_with (first
      | (go_at_call 10; refine (ascii9_any _ _ (by omega)).mono ?_; rintro e w1 ⟨rfl, rfl⟩)
      | (go_at_call 17; refine (upper9_any _ _ (by omega)).mono ?_; rintro e w1 ⟨rfl, hx⟩)
      | (go_at_call 18; refine (sameRunes_any _ _ _ _ (by omega) (by omega)).mono ?_; rintro e w1 ⟨rfl, hx⟩))
    go_ret
  all_goals first
    | (refine ⟨rfl, ?_⟩; repeat (first | assumption | exact Old.refl _ | refine Old.trans ?_ (by assumption)))
    | (have := F2.out hq; rw [hp] at this; cases this)

theorem law_walk (a b : ByteArray) (w : World) (ha : a.size ≤ 140737488351232) (hb : b.size ≤ 140737488351232) :
    Calls Try.prog 7 #[.string a, .string b] w fun e w' => e = .returned (.bool true) ∧ Below w.heap.size w w' := by
  by_cases h : asc9 a = true ∧ asc9 b = true
  · exact law_main a b w h.1 h.2
  · exact law_guard a b w ha hb h
end Go.Proofs.Ythfjkaeenpbebaa
