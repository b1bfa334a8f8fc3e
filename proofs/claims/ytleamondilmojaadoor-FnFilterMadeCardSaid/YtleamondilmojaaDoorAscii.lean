/- spec.ASCII: ASCII of at most 1000 bytes. -/
import Derived.Test.YtleamondilmojaaDoorProg
import Derived.Test.YtleamondilmojaaDoorBase
namespace Go.Proofs.YtleamondilmojaaDoor
open Go.RowKit
set_option linter.unusedVariables false
set_option linter.unusedSimpArgs false
set_option maxRecDepth 100000

/- spec.ASCII: ASCII of at most 1000 bytes. -/
def asc10 (s : ByteArray) : Bool := decide (asc s ∧ s.size ≤ 1000)
theorem asc10_no {s : ByteArray} (k : Nat) (h : k < s.size) (hc : 128 ≤ s[k].toNat) : asc10 s = false := decide_eq_false (fun hh => by have := hh.1 k h; omega)
theorem asc10_yes {s : ByteArray} (h : asc s) : asc10 s = decide (s.size ≤ 1000) := by unfold asc10; simp [h]
theorem asc10_iff {s : ByteArray} : asc10 s = true ↔ asc s ∧ s.size ≤ 1000 := by unfold asc10; simp

theorem ascii_any (s : ByteArray) (w : World) (hs : s.size ≤ 140737488351232) :
    Calls Tryd.prog 10 #[.string s] w fun e w' => e = .returned (.bool (asc10 s)) ∧ w = w' := by
  go_enter Tryd.func10, Tryd.ntmps10
  go_wp2
  go_loop [3] (fun i => ∃ k : Nat, k ≤ s.size ∧ i = .int .i64 k ∧ ∀ j (h : j < s.size), j < k → s[j].toNat < 128) (fun i => s.size - (intOf i).toNat)
  case atStart => exact ⟨0, Nat.zero_le _, rfl, fun _ _ h => absurd h (by omega)⟩
  case round =>
    obtain ⟨k, hk, rfl, hall⟩ := hrel
    have Hall := Lib.hid hall
    clear hall
    by_cases hlt : k < s.size
    · go_wp2
      · go_ret
        exact ⟨ret_bool (asc10_no k hlt (by omega)), rfl⟩
      · go_round
        case rel => exact ⟨k + 1, by omega, by go_num, fun j hj hjk => by
          by_cases e : j = k
          · subst e; omega
          · exact Hall.out j hj (by omega)⟩
        case measure => simp [intOf]; omega
    · go_wp2
      go_ret
      have : asc s := fun j hj => Hall.out j hj (by omega)
      exact ⟨ret_bool (by rw [asc10_yes this]; simp; omega), rfl⟩

end Go.Proofs.YtleamondilmojaaDoor
