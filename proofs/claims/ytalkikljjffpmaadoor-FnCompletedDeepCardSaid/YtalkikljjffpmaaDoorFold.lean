/- Contracts of the functions that compare texts of runes: readline.Runes EqualRune, EqualRuneFold, EqualFold, Equal. -/
import Derived.Test.YtalkikljjffpmaaDoorProg
import Derived.Test.YtalkikljjffpmaaDoorBase
import Derived.StillTailTactics
namespace Go.Proofs.YtalkikljjffpmaaDoor
open Go.RowKit
set_option linter.unusedVariables false
set_option linter.unusedSimpArgs false
set_option maxRecDepth 100000

/-- Two code points are the same; 'fold': or letters of ASCII that differ in their case alone. -/
def eqRune (a b : Int) (fold : Bool) : Bool :=
  a == b || (fold && (decide (65 ≤ a ∧ a ≤ 90 ∧ b = a + 32) || decide (65 ≤ b ∧ b ≤ 90 ∧ a = b + 32)))

theorem equalRune_any (a b : Int) (fold : Bool) (w : World) :
    Calls Tryd.prog 136 #[.agg #[], .int .i32 a, .int .i32 b, .bool fold] w fun e w' => e = .returned (.bool (eqRune a b fold)) ∧ Old w w' := by
  go_enter Tryd.func136, Tryd.ntmps136
  go_wp2
  all_goals
    go_ret
    refine ⟨ret_bool ?_, Old.alloc _ _⟩
    unfold eqRune
    simp_all
    try omega

/-- Two texts are the same, whatever the case of ASCII's letters. -/
def foldEq (la lb : List Int) : Prop := la.length = lb.length ∧ ∀ k, k < la.length → eqRune (gi la k) (gi lb k) true = true
instance (la lb : List Int) : Decidable (foldEq la lb) := by unfold foldEq; infer_instance
def foldTo (la lb : List Int) (k : Nat) : Prop := ∀ j, j < k → eqRune (gi la j) (gi lb j) true = true
theorem foldTo_zero (la lb : List Int) : foldTo la lb 0 := fun _ h => absurd h (by omega)
theorem foldTo_succ {la lb : List Int} {k : Nat} (h : foldTo la lb k) (e : eqRune (gi la k) (gi lb k) true = true) : foldTo la lb (k + 1) := fun j hj => by
  by_cases ej : j = k
  · subst ej; exact e
  · exact h j (by omega)

def eqTo (la lb : List Int) (k : Nat) : Prop := ∀ j, j < k → gi la j = gi lb j
theorem eqTo_zero (la lb : List Int) : eqTo la lb 0 := fun _ h => absurd h (by omega)
theorem eqTo_succ {la lb : List Int} {k : Nat} (h : eqTo la lb k) (e : gi la k = gi lb k) : eqTo la lb (k + 1) := fun j hj => by
  by_cases ej : j = k
  · subst ej; exact e
  · exact h j (by omega)

theorem equal_any (va vb : Value) (la lb : List Int) (w : World) (ha : RunesAt w va la) (hb : RunesAt w vb lb) :
    Calls Tryd.prog 116 #[.agg #[], va, vb] w fun e w' => e = .returned (.bool (decide (la = lb))) ∧ Old w w' := by
  obtain ⟨ba, oa, ca, rfl, hca, hma, hba, hcella⟩ := ha
  obtain ⟨bb, ob, cb, rfl, hcb, hmb, hbb, hcellb⟩ := hb
  unfold maxLen at hma hmb
  by_cases hl : la.length = lb.length
  · have H := Lib.hid hl; clear hl
    have hl1 : la.length ≤ lb.length := by have := H.out; omega
    have hl2 : lb.length ≤ la.length := by have := H.out; omega
    have hd : ((la.length : Int) != (lb.length : Int)) = false := by simp [H.out]
    go_enter Tryd.func116, Tryd.ntmps116
    go_wp2
    go_loopw [7] (fun i wr => ∃ k : Nat, k ≤ la.length ∧ i = .int .i64 k ∧ eqTo la lb k ∧ Old w wr) (fun i _ => la.length - (intOf i).toNat)
    case atStart => exact ⟨0, Nat.zero_le _, rfl, eqTo_zero _ _, Old.alloc _ _⟩
    case round =>
      obtain ⟨k, hk, rfl, he, hbel⟩ := hrel
      have HE := Lib.hid he
      have HB := Lib.hid hbel
      clear he hd
      by_cases hlt : k < la.length
      · have h1 := (hbel.cell (o := oa + k) hba).trans (hcella k hlt)
        have h2 := (hbel.cell (o := ob + k) hbb).trans (hcellb k (by omega))
        clear hbel hcella hcellb
        go_wp2
        go_quiet (fail)
        go_wp2
        · have hx : (gi la k != gi lb k) = true := by assumption
          go_ret
          exact ⟨ret_bool (decide_eq_false (fun e => by rw [e] at hx; simp at hx)), HB.out.then_drewN _⟩
        · have hx : (gi la k != gi lb k) = false := by assumption
          go_roundw
          case rel => exact ⟨k + 1, by omega, by go_num, eqTo_succ HE.out (by simpa using hx), HB.out.then_drewN _⟩
          case measure => simp [intOf]; omega
      · clear hbel hcella hcellb
        go_wp2
        go_ret
        obtain rfl : k = la.length := by omega
        exact ⟨ret_bool (decide_eq_true (gi_ext H.out HE.out)), HB.out⟩
  · have hd : ((la.length : Int) != (lb.length : Int)) = true := by simp; omega
    go_enter Tryd.func116, Tryd.ntmps116
    go_wp2
    go_ret
    exact ⟨ret_bool (decide_eq_false (fun e => hl (by rw [e]))), Old.alloc _ _⟩
end Go.Proofs.YtalkikljjffpmaaDoor
