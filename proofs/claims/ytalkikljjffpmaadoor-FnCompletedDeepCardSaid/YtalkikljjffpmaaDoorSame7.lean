/- laws.same7 of rows that read the same; rows of texts. -/
import Derived.Test.YtalkikljjffpmaaDoorProg
import Derived.Test.YtalkikljjffpmaaDoorArgs
import Derived.Test.YtalkikljjffpmaaDoorApp
namespace Go.Proofs.YtalkikljjffpmaaDoor
open Go.RowKit
set_option linter.unusedVariables false
set_option linter.unusedSimpArgs false
set_option linter.unnecessarySimpa false
set_option maxRecDepth 100000

/-- v is a slice of texts that reads l. -/
def SR (w : World) (v : Value) (l : List ByteArray) : Prop :=
  ∃ ad c, v = .slice ad l.length c ∧ l.length ≤ c ∧ c ≤ maxLen ∧ ∀ j, j < l.length → ∃ b o, ad = some ⟨b, o, none⟩ ∧ w.cell? ⟨b, o + j, none⟩ = some (.string (gs l j))
theorem SR.of_own {w : World} {base : Nat} {e : TypeId} {v : Value} {l : List ByteArray} {n : Nat} (h : w.ownsRow base e 1 v n (l.map Value.string)) : SR w v l := by
  have hl : l.length = n := by have := h.1; simpa using this
  subst hl
  rcases h.2 with ⟨rfl, h0⟩ | ⟨g, cap, cur, rfl, h1, h2, h3, h4, _⟩
  · exact ⟨none, 0, by rw [h0], by omega, by unfold maxLen; omega, fun j hj => absurd hj (by omega)⟩
  · refine ⟨_, cap, rfl, h3, h4, fun j hj => ⟨g, 0, rfl, ?_⟩⟩
    rw [Nat.zero_add, own_cell h j hj, gv_lt (by simpa using hj)]; simp [gs_lt hj]
theorem SR.of_strs {w : World} {v : Value} {l : List ByteArray} (h : Strs w v l) : SR w v l := by
  obtain ⟨ad, c, h1, h2, h3, h4, h5⟩ := h
  exact ⟨ad, c, h1, h2, h3, h4⟩
theorem SR.old {w w' : World} {v : Value} {l : List ByteArray} (h : SR w v l) (o : Old w w') : SR w' v l := by
  obtain ⟨ad, c, h1, h2, h3, h4⟩ := h
  refine ⟨ad, c, h1, h2, h3, fun j hj => ?_⟩
  obtain ⟨b, of, e, hc⟩ := h4 j hj
  exact ⟨b, of, e, (o.cell (World.block_lt_of_cell? w _ hc)).trans hc⟩
theorem SR.cell {w : World} {ad : Option Addr} {n c : Nat} {l : List ByteArray} (h : SR w (.slice ad n c) l) (j : Nat) (hj : j < l.length) : ∃ b o, ad = some ⟨b, o, none⟩ ∧ w.cell? ⟨b, o + j, none⟩ = some (.string (gs l j)) := by
  obtain ⟨ad', c', e, h2, h3, h4⟩ := h
  injection e with e1 e2 e3
  subst e1
  exact h4 j hj

end Go.Proofs.YtalkikljjffpmaaDoor
