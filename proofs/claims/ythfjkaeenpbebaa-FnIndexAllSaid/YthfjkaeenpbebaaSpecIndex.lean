/- Contracts: spec.folded, SameAt, IndexAll, IndexBack; impl.IndexAll, IndexBack. -/
import Derived.Test.YthfjkaeenpbebaaIndex
namespace Go.Proofs.Ythfjkaeenpbebaa
open Go.RowKit
set_option linter.unusedVariables false
set_option linter.unusedSimpArgs false
set_option maxRecDepth 100000

/-- What spec.folded tells. -/
def foldN (c : Int) (fold : Bool) : Int := if fold = true ∧ 65 ≤ c ∧ c ≤ 90 then c + 32 else c
theorem foldN_no {c : Int} {fold : Bool} (h : ¬ (fold = true ∧ 65 ≤ c ∧ c ≤ 90)) : foldN c fold = c := if_neg h
theorem foldN_yes {c : Int} (h1 : 65 ≤ c) (h2 : c ≤ 90) : foldN c true = c + 32 := if_pos ⟨rfl, h1, h2⟩

theorem folded_any (c : Int) (fold : Bool) (w : World) :
    Calls Try.prog 40 #[.int .i32 c, .bool fold] w fun e w' => e = .returned (.int .i32 (foldN c fold)) ∧ w' = w := by
  cases fold
  · go_enter Try.func40, Try.ntmps40
    go_wp2
    go_ret
    exact ⟨ret_int (foldN_no (by simp)), rfl⟩
  · by_cases h1 : 65 ≤ c
    · by_cases h2 : c ≤ 90
      · go_enter Try.func40, Try.ntmps40
        go_wp2
        go_ret
        exact ⟨ret_int (by rw [foldN_yes h1 h2]; omega), rfl⟩
      · go_enter Try.func40, Try.ntmps40
        go_wp2
        go_ret
        exact ⟨ret_int (foldN_no (by simp; omega)), rfl⟩
    · go_enter Try.func40, Try.ntmps40
      go_wp2
      go_ret
      exact ⟨ret_int (foldN_no (by simp; omega)), rfl⟩

/-- What spec.SameAt tells. -/
def sameAtB (ls lp : List Int) (i : Nat) (fold : Bool) : Bool := decide (i + lp.length ≤ ls.length ∧ ∀ j, j < lp.length → foldN (gi ls (i + j)) fold = foldN (gi lp j) fold)
theorem sameAtB_far {ls lp : List Int} {fold : Bool} {i : Nat} (h : ls.length < i + lp.length) : sameAtB ls lp i fold = false := decide_eq_false fun x => by have := x.1; omega
theorem sameAtB_no {ls lp : List Int} {fold : Bool} {i j : Nat} (hj : j < lp.length) (e : foldN (gi ls (i + j)) fold ≠ foldN (gi lp j) fold) : sameAtB ls lp i fold = false := decide_eq_false fun h => e (h.2 j hj)
theorem sameAtB_yes {ls lp : List Int} {fold : Bool} {i : Nat} (h : i + lp.length ≤ ls.length) (e : ∀ j, j < lp.length → foldN (gi ls (i + j)) fold = foldN (gi lp j) fold) : sameAtB ls lp i fold = true := decide_eq_true ⟨h, e⟩

set_option maxHeartbeats 1000000 in
theorem sameAt_any (va vb : Value) (la lb : List Int) (i : Nat) (fold : Bool) (w : World) (ha : RunesAt w va la) (hb : RunesAt w vb lb) (hi : i ≤ la.length) (h46 : la.length ≤ 70368744177664) (h46b : lb.length ≤ 70368744177664) :
    Calls Try.prog 34 #[va, vb, .int .i64 i, .bool fold] w fun e w' => e = .returned (.bool (sameAtB la lb i fold)) ∧ Old w w' := by
  obtain ⟨ba, oa, ca, rfl, hca, hma, hba, hcella⟩ := ha
  obtain ⟨bb, ob, cb, rfl, hcb, hmb, hbb, hcellb⟩ := hb
  unfold maxLen at hma hmb
  go_enter Try.func34, Try.ntmps34
  by_cases hroom : la.length < i + lb.length
  · go_wp2_with fail
    go_ret
    exact ⟨ret_bool (sameAtB_far hroom), Old.refl _⟩
  · have hroom' : i + lb.length ≤ la.length := by omega
    clear hroom
    go_wp2_with fail
    go_loopw [9, 23] (fun _ j wr => ∃ m : Nat, m ≤ lb.length ∧ j = .int .i64 m ∧ (∀ x, x < m → foldN (gi la (i + x)) fold = foldN (gi lb x) fold) ∧ Old w wr) (fun _ j _ => lb.length - (intOf j).toNat)
    case atStart => exact ⟨0, Nat.zero_le _, rfl, fun _ h => absurd h (by omega), Old.refl _⟩
    case round =>
      obtain ⟨m, hm, rfl, hyes, hold⟩ := hrel
      have HY := Lib.hid hyes
      have HI := Lib.hid hold
      clear hyes
      by_cases hml : m < lb.length
      · have h1 := (hold.cell (o := oa + (i + m)) hba).trans (hcella (i + m) (by omega))
        have h2 := (hold.cell (o := ob + m) hbb).trans (hcellb m (by omega))
        have hkm : i + m < la.length := by omega
        clear hold hcella hcellb
        have e1 : IntKind.i64.wrap ((i : Int) + (m : Int)) = (i : Int) + (m : Int) := IntWalk.i64_in _ (by omega)
        have e2 : 0 ≤ (i : Int) + (m : Int) := by omega
        have e3 : (i : Int) + (m : Int) < la.length := by omega
        have e4 : ((i : Int) + (m : Int)).toNat = i + m := by omega
        go_wp2_with fail
        go_quiet ((go_at_call 40; exact Calls.quiet_of_same (folded_any _ _ _)))
        clear e1 e2 e3 e4
        by_cases hx : foldN (gi la (i + m)) fold = foldN (gi lb m) fold
        · have hd : (foldN (gi la (i + m)) fold != foldN (gi lb m) fold) = false := by simp [hx]
          have HX := Lib.hid hx
          clear hx
          go_wp2_with fail
          go_roundw
          case rel => exact ⟨m + 1, by omega, by go_num, fun x hx' => by
            by_cases e : x = m
            · rw [e]; exact HX.out
            · exact HY.out x (by omega), HI.out.then_drewN _⟩
          case measure => simp [intOf]; omega
        · have hd : (foldN (gi la (i + m)) fold != foldN (gi lb m) fold) = true := by simp [hx]
          go_wp2_with fail
          go_ret
          exact ⟨ret_bool (sameAtB_no hml hx), HI.out.then_drewN _⟩
      · clear hold hcella hcellb
        go_wp2_with fail
        go_ret
        exact ⟨ret_bool (sameAtB_yes hroom' (fun j hj => HY.out j (by omega))), HI.out⟩

/-- What spec.IndexAll tells. -/
def specIA (ls lp : List Int) : Int := if ls.length = 0 ∧ lp.length = 0 then -1 else firstOf (fun i => sameAtB ls lp i false) (ls.length + 1)

set_option maxHeartbeats 1000000 in
theorem specIndexAll_any (s t : ByteArray) (w : World) (hs : s.size ≤ 300) (ht : t.size ≤ 300) :
    Calls Try.prog 21 #[.string s, .string t] w fun e w' => e = .returned (.int .i64 (specIA (runes s) (runes t))) ∧ Old w w' := by
  have l1 := length_runes_le s
  have l2 := length_runes_le t
  go_enter Try.func21, Try.ntmps21
  by_cases h0 : (runes s).length = 0 ∧ (runes t).length = 0
  · have H0 := Lib.hid h0
    obtain ⟨z1, z2⟩ := h0
    have d1 : (((runes s).length : Int) == 0) = true := by simp [z1]
    have d2 : (((runes t).length : Int) == 0) = true := by simp [z2]
    clear z1 z2
    go_wp2_with (first
      | (refine wpList_runes rfl 9 42 21 _ s rfl rfl Try.underlying9 Try.underlying42 Try.underlying21 (by omega) ?_; intro v1 w1 o1 r1 h1 _; obtain ⟨b1, c1, rfl⟩ := h1)
      | (refine wpList_runes rfl 9 42 21 _ t rfl rfl Try.underlying9 Try.underlying42 Try.underlying21 (by omega) ?_; intro v2 w2 o2 r2 h2 _; obtain ⟨b2, c2, rfl⟩ := h2))
    go_ret
    exact ⟨ret_int (if_pos H0.out), o1.trans o2⟩
  · have H0 := Lib.hid h0
    clear h0
    cases d1 : (((runes s).length : Int) == 0) <;> cases d2 : (((runes t).length : Int) == 0)
    case true.true => exact absurd ⟨by simpa using d1, by simpa using d2⟩ H0.out
    all_goals
      go_wp2_with (first
        | (refine wpList_runes rfl 9 42 21 _ s rfl rfl Try.underlying9 Try.underlying42 Try.underlying21 (by omega) ?_; intro v1 w1 o1 r1 h1 _; obtain ⟨b1, c1, rfl⟩ := h1)
        | (refine wpList_runes rfl 9 42 21 _ t rfl rfl Try.underlying9 Try.underlying42 Try.underlying21 (by omega) ?_; intro v2 w2 o2 r2 h2 _; obtain ⟨b2, c2, rfl⟩ := h2))
      clear d1 d2
      have HR := Lib.hid (And.intro (r1.later o2) r2)
      have HO := Lib.hid (o1.trans o2)
      clear r1 r2 o1 o2
      go_loopw [7] (fun i wr => ∃ k : Nat, k ≤ (runes s).length + 1 ∧ i = .int .i64 k ∧ (∀ j, j < k → sameAtB (runes s) (runes t) j false = false) ∧ Old w2 wr) (fun i _ => (runes s).length + 1 - (intOf i).toNat)
      case atStart => exact ⟨0, Nat.zero_le _, rfl, fun _ h => absurd h (by omega), Old.refl _⟩
      case round =>
        obtain ⟨k, hk, rfl, hno, hold⟩ := hrel
        have HN := Lib.hid hno
        have HI := Lib.hid hold
        clear hno hold
        by_cases hlt : k ≤ (runes s).length
        · go_wp2_with (go_at_call 34; refine (sameAt_any _ _ (runes s) (runes t) k _ _ (HR.out.1.later HI.out) (HR.out.2.later HI.out) hlt (by omega) (by omega)).mono ?_; rintro e w3 ⟨rfl, o3⟩; cases hx : sameAtB (runes s) (runes t) k false)
          · go_roundw
            case rel => exact ⟨k + 1, by omega, by go_num, fun j hj => by
              by_cases e : j = k
              · subst e; exact hx
              · exact HN.out j (by omega), HI.out.trans o3⟩
            case measure => simp [intOf]; omega
          · go_ret
            exact ⟨ret_int (by unfold specIA; rw [if_neg H0.out]; exact firstOf_at HN.out (by omega) hx), HO.out.trans (HI.out.trans o3)⟩
        · go_wp2_with fail
          go_ret
          exact ⟨ret_int (by unfold specIA; rw [if_neg H0.out]; exact firstOf_none fun j hj => HN.out j (by omega)), HO.out.trans HI.out⟩

set_option maxHeartbeats 1000000 in
theorem specIndexBack_any (s t : ByteArray) (fold : Bool) (w : World) (hs : s.size ≤ 300) (ht : t.size ≤ 300) :
    Calls Try.prog 23 #[.string s, .string t, .bool fold] w fun e w' => e = .returned (.int .i64 (lastOf (fun i => sameAtB (runes s) (runes t) i fold) ((runes s).length + 1))) ∧ Old w w' := by
  have l1 := length_runes_le s
  have l2 := length_runes_le t
  go_enter Try.func23, Try.ntmps23
  go_wp2_with (first
    | (refine wpList_runes rfl 9 42 21 _ s rfl rfl Try.underlying9 Try.underlying42 Try.underlying21 (by omega) ?_; intro v1 w1 o1 r1 h1 _; obtain ⟨b1, c1, rfl⟩ := h1)
    | (refine wpList_runes rfl 9 42 21 _ t rfl rfl Try.underlying9 Try.underlying42 Try.underlying21 (by omega) ?_; intro v2 w2 o2 r2 h2 _; obtain ⟨b2, c2, rfl⟩ := h2))
  have HR := Lib.hid (And.intro (r1.later o2) r2)
  have HO := Lib.hid (o1.trans o2)
  clear r1 r2 o1 o2
  go_loopw [9] (fun i wr => ∃ q : Int, -1 ≤ q ∧ q ≤ (runes s).length ∧ i = .int .i64 q ∧ (∀ j : Nat, q < j → j ≤ (runes s).length → sameAtB (runes s) (runes t) j fold = false) ∧ Old w2 wr) (fun i _ => (intOf i + 1).toNat)
  case atStart => exact ⟨_, by omega, by omega, rfl, fun j h h' => absurd h (by omega), Old.refl _⟩
  case round =>
    obtain ⟨q, hq1, hq2, rfl, hno, hold⟩ := hrel
    have HN := Lib.hid hno
    have HI := Lib.hid hold
    clear hno hold
    by_cases hlt : 0 ≤ q
    · obtain ⟨k, rfl⟩ : ∃ k : Nat, q = k := ⟨q.toNat, by omega⟩
      go_wp2_with (go_at_call 34; refine (sameAt_any _ _ (runes s) (runes t) k _ _ (HR.out.1.later HI.out) (HR.out.2.later HI.out) (by omega) (by omega) (by omega)).mono ?_; rintro e w3 ⟨rfl, o3⟩; cases hx : sameAtB (runes s) (runes t) k fold)
      · go_roundw
        case rel => exact ⟨(k : Int) - 1, by omega, by omega, rfl, fun j hj hj' => by
          by_cases e : j = k
          · subst e; exact hx
          · exact HN.out j (by omega) hj', HI.out.trans o3⟩
        case measure => simp only [intOf, Array.getD]; omega
      · go_ret
        exact ⟨ret_int (lastOf_at (fun j hj hj' => HN.out j (by omega) (by omega)) (by omega) hx), HO.out.trans (HI.out.trans o3)⟩
    · go_wp2_with fail
      go_ret
      exact ⟨ret_int (lastOf_none fun j hj => HN.out j (by omega) (by omega)), HO.out.trans HI.out⟩

theorem implIndexAll_any (s t : ByteArray) (w : World) (hs : s.size ≤ 300) (ht : t.size ≤ 300) :
    Calls Try.prog 20 #[.string s, .string t] w fun e w' => e = .returned (.int .i64 (firstOf (matchB (runes s) (runes t) false) (runes s).length)) ∧ Old w w' := by
  go_enter Try.func20, Try.ntmps20
  go_wp2_with (first
    | (refine wpList_runes rfl 9 42 21 _ _ rfl rfl Try.underlying9 Try.underlying42 Try.underlying21 (by omega) ?_; intro v w1 h1 h2 _ _)
    | (go_at_call 33; refine (indexAll_any _ _ _ _ _ (RunesAt.later (by assumption) (by assumption)) (by assumption)).mono ?_; rintro e w2 ⟨rfl, h3⟩))
  go_ret
  exact ⟨rfl, (Old.trans (by assumption) (by assumption)).trans h3⟩

theorem implIndexBack_any (s t : ByteArray) (fold : Bool) (w : World) (hs : s.size ≤ 300) (ht : t.size ≤ 300) :
    Calls Try.prog 22 #[.string s, .string t, .bool fold] w fun e w' => e = .returned (.int .i64 (lastOf (matchB (runes s) (runes t) fold) ((runes s).length + 1))) ∧ Old w w' := by
  go_enter Try.func22, Try.ntmps22
  go_wp2_with (first
    | (refine wpList_runes rfl 9 42 21 _ _ rfl rfl Try.underlying9 Try.underlying42 Try.underlying21 (by omega) ?_; intro v w1 h1 h2 _ _)
    | (go_at_call 35; refine (indexAllBckEx_any _ _ _ _ _ _ (RunesAt.later (by assumption) (by assumption)) (by assumption)).mono ?_; rintro e w2 ⟨rfl, h3⟩))
  go_ret
  exact ⟨rfl, (Old.trans (by assumption) (by assumption)).trans h3⟩
end Go.Proofs.Ythfjkaeenpbebaa
