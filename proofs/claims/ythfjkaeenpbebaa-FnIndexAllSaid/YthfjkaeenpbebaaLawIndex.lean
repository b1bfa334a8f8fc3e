/- FnIndexAll: the walk (the statement is told in the row). -/
import Derived.Test.YthfjkaeenpbebaaSpecIndex
import Derived.Test.YthfjkaeenpbebaaWhole
import Derived.Test.YthfjkaeenpbebaaSame
namespace Go.Proofs.Ythfjkaeenpbebaa
open Go.RowKit
set_option linter.unusedVariables false
set_option linter.unusedSimpArgs false
set_option maxRecDepth 100000

theorem eqRune_false (x y : Int) : eqRune x y false = decide (x = y) := by
  unfold eqRune; rw [Bool.eq_iff_iff]; simp
theorem eqRune_fold {x y : Int} (hx0 : 0 ≤ x) (hx : x < 128) (hy0 : 0 ≤ y) (hy : y < 128) : (eqRune x y true = true) ↔ foldN x true = foldN y true := by
  unfold eqRune foldN
  simp only [Bool.true_and, Bool.or_eq_true, decide_eq_true_eq, beq_iff_eq, true_and]
  (repeat' split) <;> omega
theorem match_same (ls lp : List Int) (i : Nat) : matchB ls lp false i = sameAtB ls lp i false := by
  unfold matchB sameAtB
  rw [decide_eq_decide]
  simp only [eqRune_false, decide_eq_true_eq, foldN, Bool.false_eq_true, false_and, if_false]
theorem match_fold {ls lp : List Int} (h1 : ∀ k, 0 ≤ gi ls k ∧ gi ls k < 128) (h2 : ∀ k, 0 ≤ gi lp k ∧ gi lp k < 128) (i : Nat) : matchB ls lp true i = sameAtB ls lp i true := by
  unfold matchB sameAtB
  rw [decide_eq_decide]
  have : ∀ j, (eqRune (gi ls (i + j)) (gi lp j) true = true) ↔ foldN (gi ls (i + j)) true = foldN (gi lp j) true := fun j => eqRune_fold (h1 _).1 (h1 _).2 (h2 _).1 (h2 _).2
  simp only [this]
theorem indexAll_same (ls lp : List Int) : firstOf (matchB ls lp false) ls.length = specIA ls lp := by
  unfold specIA
  rw [firstOf_congr (ok' := fun i => sameAtB ls lp i false) (fun j _ => match_same ls lp j)]
  by_cases h : ls.length = 0 ∧ lp.length = 0
  · rw [if_pos h]; exact firstOf_none fun j hj => by omega
  · rw [if_neg h]
    by_cases hp : lp.length = 0
    · have h0 : sameAtB ls lp 0 false = true := sameAtB_yes (by omega) (fun j hj => by omega)
      rw [firstOf_at (k := 0) (fun j hj => by omega) (by omega) h0, firstOf_at (k := 0) (fun j hj => by omega) (by omega) h0]
    · exact (firstOf_succ _ _ (sameAtB_far (by omega))).symm
theorem nums_bound' {s : ByteArray} (h : asc s) (k : Nat) : 0 ≤ gi (nums s) k ∧ gi (nums s) k < 128 := by
  by_cases hk : k < s.size
  · rw [gi_nums hk]; have := h k hk; omega
  · simp [gi, List.getD, List.getElem?_eq_none (show (nums s).length ≤ k by rw [length_nums]; omega)]
theorem indexBack_same (s t : ByteArray) (fold : Bool) (h : fold = true → asc s ∧ asc t) :
    lastOf (matchB (runes s) (runes t) fold) ((runes s).length + 1) = lastOf (fun i => sameAtB (runes s) (runes t) i fold) ((runes s).length + 1) := by
  apply lastOf_congr
  intro j _
  cases fold
  · exact match_same _ _ _
  · obtain ⟨a, b⟩ := h rfl
    rw [runes_asc a, runes_asc b]
    exact match_fold (nums_bound' a) (nums_bound' b) j
theorem ab_b : firstOf (matchB (runes ⟨#[97, 98]⟩) (runes ⟨#[98]⟩) false) (runes ⟨#[97, 98]⟩).length = 1 := by kernel_rfl

theorem lawIndex_main (s t : ByteArray) (fold : Bool) (w : World) (hs : s.size ≤ 140737488351232) (ht : t.size ≤ 140737488351232) :
    Calls Try.prog 8 #[.string s, .string t, .bool fold] w fun e w' => e = .returned (.bool true) ∧ Old w w' := by
  go_enter Try.func8, Try.ntmps8
  by_cases h1 : 2147483647 < s.size
  · go_wp2_with fail
    go_ret
    exact ⟨rfl, Old.refl _⟩
  by_cases h2 : 2147483647 < t.size
  · go_wp2_with fail
    go_ret
    exact ⟨rfl, Old.refl _⟩
  have e1 := Lib.hid (indexAll_same (runes s) (runes t))
  have e2 := Lib.hid (indexBack_same s t fold)
  have a1 := Lib.hid (asc9_iff (s := s))
  have a2 := Lib.hid (asc9_iff (s := t))
  have ab := Lib.hid ab_b
  have ha := e1.out
  have hc := ab.out
  have fin : ∀ {w1 : World}, Old w w1 → Ending.returned (.bool true) = .returned (.bool true) ∧ Old w w1 := fun h => ⟨rfl, h⟩
  clear fin
  cases fold
  · have hb := e2.out (fun h => by cases h)
    go_wp2_with (first
      | (go_at_call 19; refine (whole9_any _ [s, t] _ (strsAt_two _ _ _ _) (fun j hj => by match j, hj with | 0, _ => exact hs | 1, _ => exact ht)).mono ?_; rintro e w1 ⟨r, rfl, o1, h3⟩; have H3 := Lib.hid h3; clear h3; have O1 := (Old.alloc w (.cells #[.string s, .string t] 9)).trans o1; clear o1; rcases r with _ | _ <;> (try (have z1 : s.size ≤ 300 := H3.out rfl 0 (by simp); have z2 : t.size ≤ 300 := H3.out rfl 1 (by simp))))
      | (go_at_call 10; refine (ascii9_any _ _ (by omega)).mono ?_; rintro e w1 ⟨rfl, rfl⟩)
      | (go_at_call 21; refine (specIndexAll_any _ _ _ (by omega) (by omega)).mono ?_; rintro e w1 ⟨rfl, o2⟩)
      | (go_at_call 23; refine (specIndexBack_any _ _ _ _ (by omega) (by omega)).mono ?_; rintro e w1 ⟨rfl, o2⟩)
      | (go_at_call 20; refine (implIndexAll_any _ _ _ (by first | omega | decide) (by first | omega | decide)).mono ?_; rintro e w1 ⟨rfl, o2⟩)
      | (go_at_call 22; refine (implIndexBack_any _ _ _ _ (by omega) (by omega)).mono ?_; rintro e w1 ⟨rfl, o2⟩))
    all_goals (go_ret; refine ⟨rfl, ?_⟩; repeat (first | assumption | exact Old.refl _ | refine Old.trans ?_ (by assumption)))
  · cases q1 : asc9 s
    · go_wp2_with (first
      | (go_at_call 19; refine (whole9_any _ [s, t] _ (strsAt_two _ _ _ _) (fun j hj => by match j, hj with | 0, _ => exact hs | 1, _ => exact ht)).mono ?_; rintro e w1 ⟨r, rfl, o1, h3⟩; have H3 := Lib.hid h3; clear h3; have O1 := (Old.alloc w (.cells #[.string s, .string t] 9)).trans o1; clear o1; rcases r with _ | _ <;> (try (have z1 : s.size ≤ 300 := H3.out rfl 0 (by simp); have z2 : t.size ≤ 300 := H3.out rfl 1 (by simp))))
      | (go_at_call 10; refine (ascii9_any _ _ (by omega)).mono ?_; rintro e w1 ⟨rfl, rfl⟩)
      | (go_at_call 21; refine (specIndexAll_any _ _ _ (by omega) (by omega)).mono ?_; rintro e w1 ⟨rfl, o2⟩)
      | (go_at_call 23; refine (specIndexBack_any _ _ _ _ (by omega) (by omega)).mono ?_; rintro e w1 ⟨rfl, o2⟩)
      | (go_at_call 20; refine (implIndexAll_any _ _ _ (by first | omega | decide) (by first | omega | decide)).mono ?_; rintro e w1 ⟨rfl, o2⟩)
      | (go_at_call 22; refine (implIndexBack_any _ _ _ _ (by omega) (by omega)).mono ?_; rintro e w1 ⟨rfl, o2⟩))
      all_goals (go_ret; refine ⟨rfl, ?_⟩; repeat (first | assumption | exact Old.refl _ | refine Old.trans ?_ (by assumption)))
    · cases q2 : asc9 t
      · go_wp2_with (first
      | (go_at_call 19; refine (whole9_any _ [s, t] _ (strsAt_two _ _ _ _) (fun j hj => by match j, hj with | 0, _ => exact hs | 1, _ => exact ht)).mono ?_; rintro e w1 ⟨r, rfl, o1, h3⟩; have H3 := Lib.hid h3; clear h3; have O1 := (Old.alloc w (.cells #[.string s, .string t] 9)).trans o1; clear o1; rcases r with _ | _ <;> (try (have z1 : s.size ≤ 300 := H3.out rfl 0 (by simp); have z2 : t.size ≤ 300 := H3.out rfl 1 (by simp))))
      | (go_at_call 10; refine (ascii9_any _ _ (by omega)).mono ?_; rintro e w1 ⟨rfl, rfl⟩)
      | (go_at_call 21; refine (specIndexAll_any _ _ _ (by omega) (by omega)).mono ?_; rintro e w1 ⟨rfl, o2⟩)
      | (go_at_call 23; refine (specIndexBack_any _ _ _ _ (by omega) (by omega)).mono ?_; rintro e w1 ⟨rfl, o2⟩)
      | (go_at_call 20; refine (implIndexAll_any _ _ _ (by first | omega | decide) (by first | omega | decide)).mono ?_; rintro e w1 ⟨rfl, o2⟩)
      | (go_at_call 22; refine (implIndexBack_any _ _ _ _ (by omega) (by omega)).mono ?_; rintro e w1 ⟨rfl, o2⟩))
        all_goals (go_ret; refine ⟨rfl, ?_⟩; repeat (first | assumption | exact Old.refl _ | refine Old.trans ?_ (by assumption)))
      · have hb := e2.out (fun _ => ⟨(a1.out.1 q1).1, (a2.out.1 q2).1⟩)
        go_wp2_with (first
      | (go_at_call 19; refine (whole9_any _ [s, t] _ (strsAt_two _ _ _ _) (fun j hj => by match j, hj with | 0, _ => exact hs | 1, _ => exact ht)).mono ?_; rintro e w1 ⟨r, rfl, o1, h3⟩; have H3 := Lib.hid h3; clear h3; have O1 := (Old.alloc w (.cells #[.string s, .string t] 9)).trans o1; clear o1; rcases r with _ | _ <;> (try (have z1 : s.size ≤ 300 := H3.out rfl 0 (by simp); have z2 : t.size ≤ 300 := H3.out rfl 1 (by simp))))
      | (go_at_call 10; refine (ascii9_any _ _ (by omega)).mono ?_; rintro e w1 ⟨rfl, rfl⟩)
      | (go_at_call 21; refine (specIndexAll_any _ _ _ (by omega) (by omega)).mono ?_; rintro e w1 ⟨rfl, o2⟩)
      | (go_at_call 23; refine (specIndexBack_any _ _ _ _ (by omega) (by omega)).mono ?_; rintro e w1 ⟨rfl, o2⟩)
      | (go_at_call 20; refine (implIndexAll_any _ _ _ (by first | omega | decide) (by first | omega | decide)).mono ?_; rintro e w1 ⟨rfl, o2⟩)
      | (go_at_call 22; refine (implIndexBack_any _ _ _ _ (by omega) (by omega)).mono ?_; rintro e w1 ⟨rfl, o2⟩))
        all_goals (go_ret; refine ⟨rfl, ?_⟩; repeat (first | assumption | exact Old.refl _ | refine Old.trans ?_ (by assumption)))
end Go.Proofs.Ythfjkaeenpbebaa
