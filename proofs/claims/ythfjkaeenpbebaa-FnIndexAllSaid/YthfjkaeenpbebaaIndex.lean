/- Contracts: readline.Runes IndexAllEx, IndexAll, IndexAllBckEx. -/
import Derived.Test.YthfjkaeenpbebaaFold
namespace Go.Proofs.Ythfjkaeenpbebaa
open Go.RowKit
set_option linter.unusedVariables false
set_option linter.unusedSimpArgs false
set_option maxRecDepth 100000

/-- The first (last) place below n where ok holds; -1 without one. -/
def firstOf (ok : Nat → Bool) (n : Nat) : Int := match (List.range n).find? ok with | some i => (i : Int) | none => -1
def lastOf (ok : Nat → Bool) (n : Nat) : Int := match (List.range n).reverse.find? ok with | some i => (i : Int) | none => -1
theorem firstOf_at {ok : Nat → Bool} {n k : Nat} (h : ∀ j, j < k → ok j = false) (hk : k < n) (e : ok k = true) : firstOf ok n = k := by
  have : (List.range n).find? ok = some k := by
    rw [List.find?_range_eq_some]
    exact ⟨e, by simpa using hk, fun j hj => by simp [h j hj]⟩
  unfold firstOf; rw [this]
theorem firstOf_none {ok : Nat → Bool} {n : Nat} (h : ∀ j, j < n → ok j = false) : firstOf ok n = -1 := by
  have : (List.range n).find? ok = none := by
    rw [List.find?_eq_none]; intro j hj; simp [h j (by simpa using hj)]
  unfold firstOf; rw [this]
theorem find_congr {p q : Nat → Bool} : ∀ {l : List Nat}, (∀ j, j ∈ l → p j = q j) → l.find? p = l.find? q
  | [], _ => rfl
  | x :: l, h => by
    simp only [List.find?_cons]
    rw [h x (by simp), find_congr (fun j hj => h j (by simp [hj]))]
theorem firstOf_congr {ok ok' : Nat → Bool} {n : Nat} (h : ∀ j, j < n → ok j = ok' j) : firstOf ok n = firstOf ok' n := by
  unfold firstOf
  rw [find_congr (fun j hj => h j (by simpa using hj))]
theorem lastOf_congr {ok ok' : Nat → Bool} {n : Nat} (h : ∀ j, j < n → ok j = ok' j) : lastOf ok n = lastOf ok' n := by
  unfold lastOf
  rw [find_congr (fun j hj => h j (by simpa using hj))]
theorem lastOf_zero (ok : Nat → Bool) : lastOf ok 0 = -1 := rfl
theorem lastOf_succ (ok : Nat → Bool) (n : Nat) : lastOf ok (n + 1) = if ok n = true then (n : Int) else lastOf ok n := by
  unfold lastOf
  rw [List.range_succ, List.reverse_append]
  simp only [List.reverse_singleton, List.singleton_append, List.find?_cons]
  cases h : ok n <;> simp
theorem lastOf_none {ok : Nat → Bool} {n : Nat} (h : ∀ j, j < n → ok j = false) : lastOf ok n = -1 := by
  induction n with
  | zero => rfl
  | succ n ih => rw [lastOf_succ, h n (by omega)]; simpa using ih fun j hj => h j (by omega)
theorem lastOf_at {ok : Nat → Bool} {n k : Nat} (h : ∀ j, k < j → j < n → ok j = false) (hk : k < n) (e : ok k = true) : lastOf ok n = k := by
  induction n with
  | zero => omega
  | succ n ih =>
    rw [lastOf_succ]
    by_cases hn : k = n
    · subst hn; simp [e]
    · rw [h n (by omega) (by omega)]
      simpa using ih (fun j hj hj' => h j hj (by omega)) (by omega)
theorem firstOf_succ (ok : Nat → Bool) (n : Nat) (h : ok n = false) : firstOf ok (n + 1) = firstOf ok n := by
  unfold firstOf
  rw [List.range_succ, List.find?_append]
  simp [h]

/-- lp stands at place i of ls. -/
def matchB (ls lp : List Int) (fold : Bool) (i : Nat) : Bool := decide (i + lp.length ≤ ls.length ∧ ∀ j, j < lp.length → eqRune (gi ls (i + j)) (gi lp j) fold = true)
theorem matchB_yes {ls lp : List Int} {fold : Bool} {i : Nat} (h : i + lp.length ≤ ls.length) (e : ∀ j, j < lp.length → eqRune (gi ls (i + j)) (gi lp j) fold = true) : matchB ls lp fold i = true := decide_eq_true ⟨h, e⟩
theorem matchB_no {ls lp : List Int} {fold : Bool} {i j : Nat} (hj : j < lp.length) (e : eqRune (gi ls (i + j)) (gi lp j) fold = false) : matchB ls lp fold i = false := decide_eq_false fun h => by rw [h.2 j hj] at e; cases e
theorem matchB_far {ls lp : List Int} {fold : Bool} {i : Nat} (h : ls.length < i + lp.length) : matchB ls lp fold i = false := decide_eq_false fun x => by have := x.1; omega

set_option maxHeartbeats 1000000 in
theorem indexAllEx_any (va vb : Value) (la lb : List Int) (fold : Bool) (w : World) (ha : RunesAt w va la) (hb : RunesAt w vb lb) :
    Calls Try.prog 39 #[.agg #[], va, vb, .bool fold] w fun e w' => e = .returned (.int .i64 (firstOf (matchB la lb fold) la.length)) ∧ Old w w' := by
  obtain ⟨ba, oa, ca, rfl, hca, hma, hba, hcella⟩ := ha
  obtain ⟨bb, ob, cb, rfl, hcb, hmb, hbb, hcellb⟩ := hb
  unfold maxLen at hma hmb
  go_enter Try.func39, Try.ntmps39
  go_wp2_with fail
  go_loopw [9] (fun i wr => ∃ k : Nat, k ≤ la.length ∧ i = .int .i64 k ∧ (∀ j, j < k → matchB la lb fold j = false) ∧ Old w wr) (fun i _ => la.length - (intOf i).toNat)
  case atStart => exact ⟨0, Nat.zero_le _, rfl, fun _ h => absurd h (by omega), Old.alloc _ _⟩
  case round =>
    obtain ⟨k, hk, rfl, hno, hold⟩ := hrel
    have HN := Lib.hid hno
    have HO := Lib.hid hold
    clear hno
    obtain ⟨wo, rfl⟩ : ∃ wo : World, wo = wr := ⟨_, rfl⟩
    by_cases hlt : k < la.length
    · by_cases hroom : la.length < k + lb.length
      · clear hold
        go_wp2_with fail
        go_ret
        exact ⟨ret_int (firstOf_none fun j hj => by
          by_cases e : j < k
          · exact HN.out j e
          · exact matchB_far (by omega)), HO.out⟩
      · have hroom' : k + lb.length ≤ la.length := by omega
        have hd : decide (la.length - k < lb.length) = false := by simp; omega
        clear hroom
        go_wp2_with fail
        clear hd
        go_loopw [10, 11] (fun f j wr => ∃ m : Nat, m ≤ lb.length ∧ f = .bool true ∧ j = .int .i64 m ∧ (∀ x, x < m → eqRune (gi la (k + x)) (gi lb x) fold = true) ∧ Old w wr) (fun _ j _ => lb.length - (intOf j).toNat)
        case atStart => exact ⟨0, Nat.zero_le _, rfl, rfl, fun _ h => absurd h (by omega), HO.out⟩
        case round =>
          obtain ⟨m, hm, rfl, rfl, hyes, hold⟩ := hrel
          have HY := Lib.hid hyes
          have HI := Lib.hid hold
          clear hyes
          by_cases hml : m < lb.length
          · have h1 := (hold.cell (o := oa + (k + m)) hba).trans (hcella (k + m) (by omega))
            have h2 := (hold.cell (o := ob + m) hbb).trans (hcellb m (by omega))
            have hkm : k + m < la.length := by omega
            clear hold hcella hcellb
            have e1 : IntKind.i64.wrap ((k : Int) + (m : Int)) = (k : Int) + (m : Int) := IntWalk.i64_in _ (by omega)
            have e2 : 0 ≤ (k : Int) + (m : Int) := by omega
            have e3 : (k : Int) + (m : Int) < la.length := by omega
            have e4 : ((k : Int) + (m : Int)).toNat = k + m := by omega
            go_wp2_with fail
            go_still_tail 12, (by kernel_rfl)
            clear e1 e2 e3 e4
            change wpList _ _ _ _ _ wr.drew
            generalize hW : wr.drew = w2
            have HW := Lib.hid hW
            clear hW
            go_wp2_with (go_at_call 41; refine (equalRune_any _ _ _ _).mono ?_; rintro e w1 ⟨rfl, h3⟩; cases hx : eqRune (gi la (k + m)) (gi lb m) fold)
            · go_roundw
              case rel => exact ⟨k + 1, by omega, by go_num, fun j hj => by
                by_cases e : j = k
                · subst e; exact matchB_no hml hx
                · exact HN.out j (by omega), by have := HW.out; subst this; exact HI.out.then_drew.trans h3⟩
              case measure => simp [intOf]; omega
            · go_roundw
              case rel => exact ⟨m + 1, by omega, rfl, by go_num, fun x hx' => by
                by_cases e : x = m
                · rw [e]; exact hx
                · exact HY.out x (by omega), by have := HW.out; subst this; exact HI.out.then_drew.trans h3⟩
              case measure => simp [intOf]; omega
          · clear hold hcella hcellb
            go_wp2_with fail
            go_ret
            exact ⟨ret_int (firstOf_at HN.out hlt (matchB_yes hroom' (fun j hj => HY.out j (by omega)))), HI.out⟩
    · clear hold hcella hcellb
      go_wp2_with fail
      go_ret
      exact ⟨ret_int (firstOf_none fun j hj => HN.out j (by omega)), HO.out⟩

theorem indexAll_any (va vb : Value) (la lb : List Int) (w : World) (ha : RunesAt w va la) (hb : RunesAt w vb lb) :
    Calls Try.prog 33 #[.agg #[], va, vb] w fun e w' => e = .returned (.int .i64 (firstOf (matchB la lb false) la.length)) ∧ Old w w' := by
  go_enter Try.func33, Try.ntmps33
  go_wp2_with (go_at_call 39; refine (indexAllEx_any _ _ _ _ _ _ (ha.later (Old.alloc _ _)) (hb.later (Old.alloc _ _))).mono ?_; rintro e w1 ⟨rfl, h3⟩)
  go_ret
  exact ⟨rfl, (Old.alloc _ _).trans h3⟩

set_option maxHeartbeats 1000000 in
theorem indexAllBckEx_any (va vb : Value) (la lb : List Int) (fold : Bool) (w : World) (ha : RunesAt w va la) (hb : RunesAt w vb lb) :
    Calls Try.prog 35 #[.agg #[], va, vb, .bool fold] w fun e w' => e = .returned (.int .i64 (lastOf (matchB la lb fold) (la.length + 1))) ∧ Old w w' := by
  obtain ⟨ba, oa, ca, rfl, hca, hma, hba, hcella⟩ := ha
  obtain ⟨bb, ob, cb, rfl, hcb, hmb, hbb, hcellb⟩ := hb
  unfold maxLen at hma hmb
  go_enter Try.func35, Try.ntmps35
  go_wp2_with fail
  go_loopw [9] (fun i wr => ∃ q : Int, -9223372036854775807 ≤ q ∧ q + lb.length ≤ la.length ∧ i = .int .i64 q ∧ (∀ j : Nat, q < j → matchB la lb fold j = false) ∧ Old w wr) (fun i _ => (intOf i + 1).toNat)
  case atStart => exact ⟨_, by omega, by omega, rfl, fun j hj => matchB_far (by omega), Old.alloc _ _⟩
  case round =>
    obtain ⟨q, hq1, hq2, rfl, hno, hold⟩ := hrel
    have HN := Lib.hid hno
    have HO := Lib.hid hold
    clear hno
    obtain ⟨wo, rfl⟩ : ∃ wo : World, wo = wr := ⟨_, rfl⟩
    by_cases hlt : 0 ≤ q
    · obtain ⟨k, rfl⟩ : ∃ k : Nat, q = k := ⟨q.toNat, by omega⟩
      go_wp2_with fail
      go_loopw [10, 11] (fun f j wr => ∃ m : Nat, m ≤ lb.length ∧ f = .bool true ∧ j = .int .i64 m ∧ (∀ x, x < m → eqRune (gi la (k + x)) (gi lb x) fold = true) ∧ Old w wr) (fun _ j _ => lb.length - (intOf j).toNat)
      case atStart => exact ⟨0, Nat.zero_le _, rfl, rfl, fun _ h => absurd h (by omega), HO.out⟩
      case round =>
        obtain ⟨m, hm, rfl, rfl, hyes, hold⟩ := hrel
        have HY := Lib.hid hyes
        have HI := Lib.hid hold
        clear hyes
        by_cases hml : m < lb.length
        · have h1 := (hold.cell (o := oa + (k + m)) hba).trans (hcella (k + m) (by omega))
          have h2 := (hold.cell (o := ob + m) hbb).trans (hcellb m (by omega))
          have hkm : k + m < la.length := by omega
          clear hold hcella hcellb
          have e1 : IntKind.i64.wrap ((k : Int) + (m : Int)) = (k : Int) + (m : Int) := IntWalk.i64_in _ (by omega)
          have e2 : 0 ≤ (k : Int) + (m : Int) := by omega
          have e3 : (k : Int) + (m : Int) < la.length := by omega
          have e4 : ((k : Int) + (m : Int)).toNat = k + m := by omega
          go_wp2_with fail
          go_still_tail 12, (by kernel_rfl)
          clear e1 e2 e3 e4
          change wpList _ _ _ _ _ wr.drew
          generalize hW : wr.drew = w2
          have HW := Lib.hid hW
          clear hW
          go_wp2_with (go_at_call 41; refine (equalRune_any _ _ _ _).mono ?_; rintro e w1 ⟨rfl, h3⟩; cases hx : eqRune (gi la (k + m)) (gi lb m) fold)
          · go_roundw
            case rel => exact ⟨(k : Int) - 1, by omega, by omega, rfl, fun j hj => by
              by_cases e : j = k
              · subst e; exact matchB_no hml hx
              · exact HN.out j (by omega), by have := HW.out; subst this; exact HI.out.then_drew.trans h3⟩
            case measure => simp only [intOf, Array.getD]; omega
          · go_roundw
            case rel => exact ⟨m + 1, by omega, rfl, by go_num, fun x hx' => by
              by_cases e : x = m
              · rw [e]; exact hx
              · exact HY.out x (by omega), by have := HW.out; subst this; exact HI.out.then_drew.trans h3⟩
            case measure => simp [intOf]; omega
        · clear hold hcella hcellb
          go_wp2_with fail
          go_ret
          refine ⟨ret_int ?_, HI.out⟩
          exact lastOf_at (fun j hj _ => HN.out j (by omega)) (by omega) (matchB_yes (by omega) (fun j hj => HY.out j (by omega)))
    · clear hold hcella hcellb
      go_wp2_with fail
      go_ret
      exact ⟨ret_int (lastOf_none fun j hj => HN.out j (by omega)), HO.out⟩
end Go.Proofs.Ythfjkaeenpbebaa
