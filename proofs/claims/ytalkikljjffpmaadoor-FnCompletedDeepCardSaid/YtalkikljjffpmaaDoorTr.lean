/- The tree of a completer in memory; its methods. -/
import Derived.Test.YtalkikljjffpmaaDoorSeg1
import Derived.Test.YtalkikljjffpmaaDoorTrim
namespace Go.Proofs.YtalkikljjffpmaaDoor
open Go.RowKit
set_option linter.unusedVariables false
set_option linter.unusedSimpArgs false
set_option linter.unnecessarySimpa false
set_option maxRecDepth 100000

/-- v is a slice of values, one for each of n, of which R holds. -/
def RowI (w : World) (v : Value) (n : Nat) (R : Nat → Value → Prop) : Prop :=
  ∃ ad c, v = .slice ad n c ∧ ∀ j, j < n → ∃ b o u, ad = some ⟨b, o, none⟩ ∧ b < w.heap.size ∧ w.cell? ⟨b, o + j, none⟩ = some u ∧ R j u
theorem RowI.at_ {w : World} {ad : Option Addr} {n m c : Nat} {R : Nat → Value → Prop} (h : RowI w (.slice ad m c) n R) {j : Nat} (hj : j < n) : ∃ b o u, ad = some ⟨b, o, none⟩ ∧ b < w.heap.size ∧ w.cell? ⟨b, o + j, none⟩ = some u ∧ R j u := by
  obtain ⟨ad', c', e, h⟩ := h
  injection e with e1 e2 e3
  subst e1
  exact h j hj
theorem gc_any (p : Nat) (kv : Value) (w : World) (h : w.cell? ⟨p, 3, none⟩ = some kv) : Calls Tryd.prog 170 #[.pointer (some ⟨p, 0, none⟩)] w fun e w' => e = .returned kv ∧ w' = w := by
  go_enter Tryd.func170, Tryd.ntmps170
  go_wp2_with fail
  go_ret
  exact ⟨rfl, rfl⟩
theorem gn_any (p : Nat) (nv : Value) (w : World) (h : w.cell? ⟨p, 0, none⟩ = some nv) : Calls Tryd.prog 172 #[.pointer (some ⟨p, 0, none⟩)] w fun e w' => e = .returned nv ∧ w' = w := by
  go_enter Tryd.func172, Tryd.ntmps172
  go_wp2_with fail
  go_ret
  exact ⟨rfl, rfl⟩
theorem isd_any (p : Nat) (w : World) (h : w.cell? ⟨p, 1, none⟩ = some (.bool false)) : Calls Tryd.prog 173 #[.pointer (some ⟨p, 0, none⟩)] w fun e w' => e = .returned (.bool false) ∧ w' = w := by
  go_enter Tryd.func173, Tryd.ntmps173
  go_wp2_with fail
  go_ret
  exact ⟨rfl, rfl⟩
end Go.Proofs.YtalkikljjffpmaaDoor
