/- The reference's searches: spec.hasByte, first, last, Start, End. -/
import Derived.Test.YtleamondilmojaaDoorProg
import Derived.Test.YtleamondilmojaaDoorDocW
namespace Go.Proofs.YtleamondilmojaaDoor
open Go.RowKit
set_option linter.unusedVariables false
set_option linter.unusedSimpArgs false
set_option linter.unnecessarySimpa false
set_option maxRecDepth 100000

/-- Whether some bytes have a byte; a byte that is (nt: is none) of some. -/
def hasb (S : Bs) (x : UInt8) : Bool := S.contains x
def setP (S : Bs) (nt : Bool) (x : UInt8) : Bool := hasb S x != nt
theorem beq_same {a b : UInt8} (h : a = b) : ((a.toNat : Int) == (b.toNat : Int)) = true := by rw [h]; simp
theorem beq_diff {a b : UInt8} (h : a ≠ b) : ((a.toNat : Int) == (b.toNat : Int)) = false := by
  rw [beq_eq_false_iff_ne]; intro e; exact h (UInt8.toNat_inj.1 (by omega))
theorem setP_spell {S : Bs} {nt b : Bool} {x : UInt8} (h : setP S nt x = b) : (!hasb S x == nt) = b := by
  unfold setP at h; rw [← h]; cases hasb S x <;> cases nt <;> rfl
theorem contains_at {S : Bs} {k : Nat} {c : UInt8} (hk : k < S.length) (h : S[k] = c) : hasb S c = true := by
  unfold hasb; rw [List.contains_iff_mem]; subst h; exact List.getElem_mem hk
theorem contains_none {S : Bs} {c : UInt8} (h : ∀ j (hj : j < S.length), S[j] ≠ c) : hasb S c = false := by
  unfold hasb
  cases e : S.contains c with
  | false => rfl
  | true =>
    rw [List.contains_iff_mem] at e
    obtain ⟨i, hi, he⟩ := List.getElem_of_mem e
    exact absurd he (h i hi)
theorem hasB_any (S : Bs) (c : UInt8) (w : World) (hn : S.length ≤ 1000000) : Calls Tryd.prog 66 #[.string (tx S), .int .u8 c.toNat] w fun e w' => e = .returned (.bool (hasb S c)) ∧ w' = w := by
  have hs : (tx S).size = S.length := tx_size S
  go_enter Tryd.func66, Tryd.ntmps66
  go_wp2
  go_loop [5] (fun i => ∃ k : Nat, k ≤ S.length ∧ i = .int .i64 k ∧ ∀ j (hj : j < S.length), j < k → S[j] ≠ c) (fun i => S.length - (intOf i).toNat)
  case atStart => exact ⟨0, Nat.zero_le _, rfl, fun j hj h => absurd h (by omega)⟩
  case round =>
    obtain ⟨q, hk, rfl, hall⟩ := hrel
    have AL := Lib.hid hall
    clear hall
    by_cases hq : q < S.length
    · have hg := get_tx hq (by omega)
      by_cases hc : S[q] = c
      · have R := Lib.hid (contains_at hq hc)
        have e1 : ((((tx S)[q]'(by omega)).toNat : Int) == (c.toNat : Int)) = true := by rw [hg]; exact beq_same hc
        clear hc hg
        go_wp2_with fail
        go_ret
        exact ⟨ret_bool R.out, rfl⟩
      · have e1 : ((((tx S)[q]'(by omega)).toNat : Int) == (c.toNat : Int)) = false := by rw [hg]; exact beq_diff hc
        have HC := Lib.hid hc
        clear hc hg
        go_wp2_with fail
        go_round
        case rel =>
          refine ⟨q + 1, by omega, by go_num, fun j hj h => ?_⟩
          by_cases e : j = q
          · subst e; exact HC.out
          · exact AL.out j hj (by omega)
        case measure => simp [intOf]; omega
    · obtain rfl : q = S.length := by omega
      have R := Lib.hid (contains_none (c := c) (fun j hj => AL.out j hj hj))
      go_wp2_with fail
      go_ret
      exact ⟨ret_bool R.out, rfl⟩
theorem first_any (l S : Bs) (nt : Bool) (w : World) (hn : l.length ≤ 1000000) (hS : S.length ≤ 1000000) : Calls Tryd.prog 35 #[.string (tx l), .string (tx S), .bool nt] w fun e w' => e = .returned (.int .i64 (fidx (setP S nt) l)) ∧ w' = w := by
  have hs : (tx l).size = l.length := tx_size l
  go_enter Tryd.func35, Tryd.ntmps35
  go_wp2
  go_loop [7] (fun i => ∃ k : Nat, k ≤ l.length ∧ i = .int .i64 k ∧ ∀ j (hj : j < l.length), j < k → setP S nt l[j] = false) (fun i => l.length - (intOf i).toNat)
  case atStart => exact ⟨0, Nat.zero_le _, rfl, fun j hj h => absurd h (by omega)⟩
  case round =>
    obtain ⟨q, hk, rfl, hall⟩ := hrel
    have AL := Lib.hid hall
    clear hall
    by_cases hq : q < l.length
    · obtain ⟨c, hc, hg⟩ : ∃ c, c = l[q] ∧ (tx l)[q]'(by omega) = c := ⟨_, rfl, get_tx hq (by omega)⟩
      have HC := Lib.hid hc
      clear hc
      cases hp : setP S nt c with
      | true =>
        have R := Lib.hid (fidx_at hq (fun j hj h => AL.out j hj h) (by rw [← HC.out]; exact hp))
        have e1 := setP_spell hp
        clear hp
        go_wp2_with (go_at_call 66; refine (hasB_any S c _ hS).mono ?_; rintro e w' ⟨rfl, rfl⟩)
        go_ret
        exact ⟨ret_int R.out, rfl⟩
      | false =>
        have e1 := setP_spell hp
        have HP := Lib.hid hp
        clear hp
        go_wp2_with (go_at_call 66; refine (hasB_any S c _ hS).mono ?_; rintro e w' ⟨rfl, rfl⟩)
        go_round
        case rel =>
          refine ⟨q + 1, by omega, by go_num, fun j hj h => ?_⟩
          by_cases e : j = q
          · subst e; rw [← HC.out]; exact HP.out
          · exact AL.out j hj (by omega)
        case measure => simp [intOf]; omega
    · obtain rfl : q = l.length := by omega
      have R := Lib.hid (fidx_none (p := setP S nt) (fun j hj => AL.out j hj hj))
      go_wp2_with fail
      go_ret
      exact ⟨ret_int R.out, rfl⟩
end Go.Proofs.YtleamondilmojaaDoor
