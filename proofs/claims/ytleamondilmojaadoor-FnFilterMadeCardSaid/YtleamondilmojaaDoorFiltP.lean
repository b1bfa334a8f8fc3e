/- The four tests of a suggestion, where they pass: HasPrefix, HasSuffix, zzContains, fuzzyMatch. -/
import Derived.Test.YtleamondilmojaaDoorZz
import Derived.Test.YtleamondilmojaaDoorDocL
namespace Go.Proofs.YtleamondilmojaaDoor
open Go.RowKit
set_option linter.unusedVariables false
set_option linter.unusedSimpArgs false
set_option linter.unnecessarySimpa false
set_option maxRecDepth 100000

theorem tx_beq (a : Bs) : ((tx a).toList == (tx a).toList) = true := by simp
theorem pre_cut (p a : Bs) : (tx (p ++ a)).extract 0 p.length = tx p := by rw [extract_eq, bs_tx]; simp
theorem suf_cut (a p : Bs) : (tx (a ++ p)).extract a.length (a.length + p.length) = tx p := by rw [extract_eq, bs_tx]; simp
theorem mid_cut (a p b : Bs) : (tx (a ++ p ++ b)).extract a.length (a.length + p.length) = tx p := by
  rw [extract_eq, bs_tx, Nat.add_sub_cancel_left, List.append_assoc, List.drop_left, List.take_left]

theorem hp_any (p a : Bs) (w : World) (hp : p.length ≤ 100000) (ha : a.length ≤ 100000) : Calls Tryd.prog 77 #[.string (tx (p ++ a)), .string (tx p)] w fun e w' => e = .returned (.bool true) ∧ Old w w' := by
  have e1 := pre_cut p a
  have h1 : (tx p).size = p.length := tx_size p
  have h2 : (tx (p ++ a)).size = p.length + a.length := by rw [tx_size]; simp
  go_enter Tryd.func77, Tryd.ntmps77
  go_wp2_with fail
  go_ret
  exact ⟨rfl, Old.refl _⟩
theorem hs_any (a p : Bs) (w : World) (hp : p.length ≤ 100000) (ha : a.length ≤ 100000) : Calls Tryd.prog 78 #[.string (tx (a ++ p)), .string (tx p)] w fun e w' => e = .returned (.bool true) ∧ Old w w' := by
  have e1 := suf_cut a p
  have h1 : (tx p).size = p.length := tx_size p
  have h2 : (tx (a ++ p)).size = a.length + p.length := by rw [tx_size]; simp
  go_enter Tryd.func78, Tryd.ntmps78
  go_wp2_with fail
  go_ret
  exact ⟨rfl, Old.refl _⟩

theorem idxm_any (a p b : Bs) (w : World) (hp : p.length ≤ 100000) (ha : a.length ≤ 100000) (hb : b.length ≤ 100000) : Calls Tryd.prog 79 #[.string (tx (a ++ p ++ b)), .string (tx p)] w fun e w' => (∃ q : Nat, e = .returned (.int .i64 q)) ∧ w' = w := by
  have h1 : (tx p).size = p.length := tx_size p
  have h2 : (tx (a ++ p ++ b)).size = a.length + p.length + b.length := by rw [tx_size]; simp; omega
  have e0 := mid_cut a p b
  generalize a ++ p ++ b = s at e0 h2 ⊢
  go_enter Tryd.func79, Tryd.ntmps79
  go_wp2_with fail
  go_loop [5] (fun i => ∃ k : Nat, k ≤ a.length ∧ i = .int .i64 k) (fun i => a.length - (intOf i).toNat)
  case atStart => exact ⟨0, Nat.zero_le _, rfl⟩
  case round =>
    obtain ⟨k, hk, rfl⟩ := hrel
    by_cases hlt : k < a.length
    · generalize he : (tx s).extract k (k + p.length) = x
      clear e0
      by_cases hx : x = tx p
      · subst hx
        go_wp2_with fail
        go_ret
        exact ⟨⟨k, rfl⟩, rfl⟩
      · have e2 := toList_ne hx
        clear hx
        go_wp2_with fail
        go_round
        case rel => exact ⟨k + 1, by omega, by go_num⟩
        case measure => simp [intOf]; omega
    · obtain rfl : k = a.length := by omega
      go_wp2_with fail
      go_ret
      exact ⟨⟨_, rfl⟩, rfl⟩
theorem con_any (a p b : Bs) (w : World) (hp : p.length ≤ 100000) (ha : a.length ≤ 100000) (hb : b.length ≤ 100000) : Calls Tryd.prog 56 #[.string (tx (a ++ p ++ b)), .string (tx p)] w fun e w' => e = .returned (.bool true) ∧ Old w w' := by
  have H := idxm_any a p b w hp ha hb
  generalize tx (a ++ p ++ b) = s at H ⊢
  generalize tx p = t at H ⊢
  go_enter Tryd.func56, Tryd.ntmps56
  go_wp2_with (go_at_call 79; refine H.mono ?_; rintro e w1 ⟨⟨q, rfl⟩, rfl⟩)
  go_ret
  exact ⟨ret_bool (by simp), Old.refl _⟩
end Go.Proofs.YtleamondilmojaaDoor
