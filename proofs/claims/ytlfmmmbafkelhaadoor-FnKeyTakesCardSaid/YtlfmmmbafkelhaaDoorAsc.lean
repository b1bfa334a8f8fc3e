/- Contract: laws.ascii9. -/
import Derived.Test.YtlfmmmbafkelhaaDoorProg
import Derived.Test.YtlfmmmbafkelhaaDoorBase
namespace Go.Proofs.YtlfmmmbafkelhaaDoor
open Go.RowKit
set_option linter.unusedVariables false
set_option linter.unusedSimpArgs false
set_option maxRecDepth 100000

/-- What laws.ascii9 tells. -/
def asc9 (s : ByteArray) : Bool := decide (asc s ∧ s.size ≤ 300)
theorem asc9_no {s : ByteArray} (k : Nat) (h : k < s.size) (hc : 128 ≤ s[k].toNat) : asc9 s = false := decide_eq_false (fun hh => by have := hh.1 k h; omega)
theorem asc9_yes {s : ByteArray} (h : asc s) : asc9 s = decide (s.size ≤ 300) := by unfold asc9; simp [h]
theorem asc9_iff {s : ByteArray} : asc9 s = true ↔ asc s ∧ s.size ≤ 300 := by unfold asc9; simp

theorem ascii9_any (s : ByteArray) (w : World) (hs : s.size ≤ 140737488351232) :
    Calls Tryd.prog 30 #[.string s] w fun e w' => e = .returned (.bool (asc9 s)) ∧ w = w' := by
  go_enter Tryd.func30, Tryd.ntmps30
  go_wp2
  go_loop [3, 6] (fun _ i => ∃ k : Nat, k ≤ s.size ∧ i = .int .i64 k ∧ ∀ j (h : j < s.size), j < k → s[j].toNat < 128) (fun _ i => s.size - (intOf i).toNat)
  case atStart => exact ⟨0, Nat.zero_le _, rfl, fun _ _ h => absurd h (by omega)⟩
  case round =>
    obtain ⟨k, hk, rfl, hall⟩ := hrel
    have Hall := Lib.hid hall
    clear hall
    by_cases hlt : k < s.size
    · go_wp2
      · go_ret
        exact ⟨ret_bool (asc9_no k hlt (by omega)), rfl⟩
      · go_round
        case rel => exact ⟨k + 1, by omega, by go_num, fun j hj hjk => by
          by_cases e : j = k
          · subst e; omega
          · exact Hall.out j hj (by omega)⟩
        case measure => simp [intOf]; omega
    · go_wp2
      go_ret
      have : asc s := fun j hj => Hall.out j hj (by omega)
      exact ⟨ret_bool (by rw [asc9_yes this]; simp; omega), rfl⟩

end Go.Proofs.YtlfmmmbafkelhaaDoor
