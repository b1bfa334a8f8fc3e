/- Texts without white space ahead. -/
import Derived.Test.YtalkikljjffpmaaDoorProg
import Derived.Test.YtalkikljjffpmaaDoorBase
import Derived.Test.YtalkikljjffpmaaDoorAsc
import Derived.Test.YtalkikljjffpmaaDoorApp
import Derived.LoopTactic
import Derived.StillTailTactics
namespace Go.Proofs.YtalkikljjffpmaaDoor
open Go.RowKit
set_option linter.unusedVariables false
set_option linter.unusedSimpArgs false
set_option linter.unnecessarySimpa false
set_option maxRecDepth 100000

def spB (x : Int) : Bool := decide (x = 32 ∨ (9 ≤ x ∧ x ≤ 13))
def lead (l : List Int) : Nat := (l.takeWhile spB).length
theorem lead_le (l : List Int) : lead l ≤ l.length := by unfold lead; exact (List.takeWhile_sublist spB).length_le
theorem lead_at {l : List Int} {k : Nat} (h : ∀ j, j < k → spB (gi l j) = true) (hk : k < l.length) (e : spB (gi l k) = false) : lead l = k := by
  unfold lead
  induction l generalizing k with
  | nil => simp at hk
  | cons x l ih =>
    cases k with
    | zero =>
      have e' : spB x = false := by simpa [gi] using e
      rw [List.takeWhile_cons, e']; rfl
    | succ k =>
      have h0 : spB x = true := by simpa [gi] using h 0 (by omega)
      rw [List.takeWhile_cons, h0]
      have := ih (k := k) (fun j hj => by simpa [gi] using h (j + 1) (by omega)) (by simpa using hk) (by simpa [gi] using e)
      simp only [if_true, List.length_cons]
      rw [this]
theorem lead_all {l : List Int} (h : ∀ j, j < l.length → spB (gi l j) = true) : lead l = l.length := by
  unfold lead
  induction l with
  | nil => rfl
  | cons x l ih =>
    have h0 : spB x = true := by simpa [gi] using h 0 (by simp)
    rw [List.takeWhile_cons, h0]
    have := ih (fun j hj => by simpa [gi] using h (j + 1) (by simpa using hj))
    simp only [if_true, List.length_cons]
    rw [this]

theorem isSpace_any (x : Int) (w : World) (h0 : 0 ≤ x) (h1 : x < 128) : Calls Tryd.prog 117 #[.int .i32 x] w fun e w' => e = .returned (.bool (spB x)) ∧ w' = w := by
  have d1 : IntKind.u32.wrap x = x := by have := IntKind.wrap_u32 x; rw [this]; omega
  by_cases e1 : x = 9
  · subst e1
    go_enter Tryd.func117, Tryd.ntmps117
    go_wp2_with fail
    go_ret
    exact ⟨rfl, rfl⟩
  by_cases e2 : x = 10
  · subst e2
    go_enter Tryd.func117, Tryd.ntmps117
    go_wp2_with fail
    go_ret
    exact ⟨rfl, rfl⟩
  by_cases e3 : x = 11
  · subst e3
    go_enter Tryd.func117, Tryd.ntmps117
    go_wp2_with fail
    go_ret
    exact ⟨rfl, rfl⟩
  by_cases e4 : x = 12
  · subst e4
    go_enter Tryd.func117, Tryd.ntmps117
    go_wp2_with fail
    go_ret
    exact ⟨rfl, rfl⟩
  by_cases e5 : x = 13
  · subst e5
    go_enter Tryd.func117, Tryd.ntmps117
    go_wp2_with fail
    go_ret
    exact ⟨rfl, rfl⟩
  by_cases e6 : x = 32
  · subst e6
    go_enter Tryd.func117, Tryd.ntmps117
    go_wp2_with fail
    go_ret
    exact ⟨rfl, rfl⟩
  have q1 : (x == 9) = false := by simpa using e1
  have q2 : (x == 10) = false := by simpa using e2
  have q3 : (x == 11) = false := by simpa using e3
  have q4 : (x == 12) = false := by simpa using e4
  have q5 : (x == 13) = false := by simpa using e5
  have q6 : (x == 32) = false := by simpa using e6
  have q7 : (x == 133) = false := by rw [beq_eq_false_iff_ne]; omega
  have q8 : (x == 160) = false := by rw [beq_eq_false_iff_ne]; omega
  have HS : Hid (spB x = false) := by unfold Hid spB; rw [decide_eq_false_iff_not]; omega
  clear e1 e2 e3 e4 e5 e6
  go_enter Tryd.func117, Tryd.ntmps117
  go_wp2_with fail
  go_ret
  exact ⟨ret_bool HS.out, rfl⟩

theorem runes_drop {w w' : World} {b o c k : Nat} {l : List Int} (ho : Old w w') (hcell : ∀ j, j < l.length → w.cell? ⟨b, o + j, none⟩ = some (.int .i32 (gi l j))) (hc : l.length ≤ c) (hm : c ≤ maxLen) (hb : b < w.heap.size) (hk : k ≤ l.length) :
    RunesAt w' (.slice (some ⟨b, o + k, none⟩) (l.length - k) (c - k)) (l.drop k) := by
  have hl : (l.drop k).length = l.length - k := by simp
  refine ⟨b, o + k, c - k, by rw [hl], by omega, by omega, Nat.lt_of_lt_of_le hb ho.size, fun j hj => ?_⟩
  rw [hl] at hj
  rw [gi_drop, Nat.add_assoc, ho.cell hb]
  exact hcell (k + j) (by omega)

set_option maxHeartbeats 1000000 in
theorem trim_any (v : Value) (l : List Int) (w : World) (hv : RunesAt w v l) (ha : ∀ j, j < l.length → 0 ≤ gi l j ∧ gi l j < 128) :
    Calls Tryd.prog 85 #[.agg #[], v] w fun e w' => ∃ r, e = .returned r ∧ Old w w' ∧ RunesAt w' r (l.drop (lead l)) := by
  obtain ⟨b, o, c, rfl, hc, hm, hb, hcell⟩ := hv
  have HC := Lib.hid hcell
  have HA := Lib.hid ha
  unfold maxLen at hm
  clear hcell ha
  go_enter Tryd.func85, Tryd.ntmps85
  go_wp2_with fail
  go_loopw [5, 6, 7, 12] (fun f _ _ i wr => ∃ k : Nat, k ≤ l.length ∧ i = .int .i64 k ∧ f = .int .i64 l.length ∧ (∀ j, j < k → spB (gi l j) = true) ∧ Old w wr) (fun _ _ _ i _ => l.length - (intOf i).toNat)
  case atStart => exact ⟨0, Nat.zero_le _, rfl, rfl, fun _ h => absurd h (by omega), Old.alloc _ _⟩
  case round =>
    obtain ⟨k, hk, rfl, rfl, hsp, hold⟩ := hrel
    have HS := Lib.hid hsp
    have HO := Lib.hid hold
    clear hsp
    by_cases hkl : k < l.length
    · have hck := (hold.cell (o := o + k) hb).trans (HC.out k hkl)
      obtain ⟨g0, g1⟩ := HA.out k hkl
      clear hold
      cases hx : spB (gi l k)
      · have LD := Lib.hid (lead_at HS.out hkl hx)
        go_wp2_with (go_at_call 117; refine (isSpace_any (gi l k) wr g0 g1).mono ?_; rintro e w1 ⟨rfl, rfl⟩; rw [hx])
        go_ret
        have hm' : c ≤ maxLen := by unfold maxLen; omega
        exact ⟨_, rfl, HO.out, by rw [LD.out]; exact runes_drop HO.out HC.out hc hm' hb (by omega)⟩
      · go_wp2_with (go_at_call 117; refine (isSpace_any (gi l k) wr g0 g1).mono ?_; rintro e w1 ⟨rfl, rfl⟩; rw [hx])
        go_roundw
        case rel => exact ⟨k + 1, by omega, by go_num, rfl, fun j hj => by
          by_cases e : j = k
          · rw [e]; exact hx
          · exact HS.out j (by omega), HO.out⟩
        case measure => simp [intOf]; omega
    · have hkl' : k = l.length := by omega
      subst hkl'
      clear hold
      go_wp2_with fail
      all_goals
        go_ret
        have LD := lead_all HS.out
        rw [LD]
        refine ⟨_, rfl, HO.out, ?_⟩
        rw [List.drop_length]
      · exact ⟨b, o, 0, rfl, Nat.le_refl _, by unfold maxLen; omega, Nat.lt_of_lt_of_le hb HO.out.size, fun j hj => absurd hj (by simp)⟩
      · exact ⟨b, o + l.length, c - l.length, rfl, by simp, by unfold maxLen; omega, Nat.lt_of_lt_of_le hb HO.out.size, fun j hj => absurd hj (by simp)⟩

end Go.Proofs.YtalkikljjffpmaaDoor
