/- Arguments that are slices: what they read. -/
import Derived.Test.YtalkikljjffpmaaDoorProg
import Derived.Test.YtalkikljjffpmaaDoorBase
import Derived.ChangeSlices
import Derived.SliceStrings
import Derived.Deep.SlicePairs
import Derived.OpenShut
namespace Go.Proofs.YtalkikljjffpmaaDoor
open Go.RowKit Go.ChangeShapes Go.WideShapes
set_option linter.unusedVariables false
set_option linter.unusedSimpArgs false
set_option linter.unnecessarySimpa false
set_option maxRecDepth 100000

/-- A slice of integers that came in. -/
def Ints (w : World) (k : IntKind) (v : Value) (l : List Int) : Prop :=
  ∃ ad c, v = .slice ad l.length c ∧ l.length ≤ c ∧ c ≤ maxLen ∧ (∀ j, j < l.length → ∃ b o, ad = some ⟨b, o, none⟩ ∧ w.cell? ⟨b, o + j, none⟩ = some (.int k (gi l j))) ∧ ∀ x ∈ l, (Lit.int k x).wf = true
/-- A slice of strings that came in. -/
def Strs (w : World) (v : Value) (l : List ByteArray) : Prop :=
  ∃ ad c, v = .slice ad l.length c ∧ l.length ≤ c ∧ c ≤ maxLen ∧ (∀ j, j < l.length → ∃ b o, ad = some ⟨b, o, none⟩ ∧ w.cell? ⟨b, o + j, none⟩ = some (.string (gs l j))) ∧ ∀ x ∈ l, x.size ≤ maxLen

theorem add_plain0 (b o i : Nat) : (⟨b, o, none⟩ : Addr).add i = ⟨b, o + i, none⟩ := by unfold Addr.add; split <;> simp_all

section
variable {H : Type} {enc : TypeId × Value → H} {P : Program} {W : World}
theorem ints_open {t e : TypeId} {k : IntKind} {a : Option Addr} {len cap : Nat} {d : DataW H} {p : List MemPlace} (ht : P.underlying t = some (.slice e)) (he : P.underlying e = some (.int k)) (hc : P.cellsOf e = 1)
    (h : DataW.Trod enc P W 0 (fun _ => true) true t (.slice a len cap) d p) : ∃ zs, Ints W k (.slice a len cap) zs := by
  obtain ⟨fuel, hf⟩ := h
  rcases open_ints ht he hc hf with ⟨hcs, _⟩ | ⟨x, l, c, zs, hcs, _, hl, hm, hz, _, hcell, hwz⟩
  · simp [Value.cells] at hcs
    obtain ⟨rfl, rfl, rfl⟩ := hcs
    exact ⟨[], none, 0, rfl, Nat.zero_le _, by unfold maxLen; omega, fun j hj => absurd hj (by simp), fun x hx => by cases hx⟩
  · simp [Value.cells] at hcs
    obtain ⟨rfl, rfl, rfl⟩ := hcs
    simp only [if_true] at hz
    have hlen : (zs.take len).length = len := by simp; omega
    refine ⟨zs.take len, some x, cap, by rw [hlen], by omega, hm, fun j hj => ?_, fun y hy => hwz y (List.mem_of_mem_take hy)⟩
    rw [hlen] at hj
    obtain ⟨ab, ao, spot⟩ := x
    have hspot : spot = none := by simpa [Addr.add] using World.cell?_spot (hcell 0 (by omega))
    subst hspot
    refine ⟨ab, ao, rfl, ?_⟩
    have := hcell j (by omega)
    rw [add_plain0] at this
    rw [this]
    simp [gi, List.getD, List.getElem?_take, hj]
theorem strs_open {t e : TypeId} {a : Option Addr} {len cap : Nat} {d : DataW H} {p : List MemPlace} (ht : P.underlying t = some (.slice e)) (he : P.underlying e = some .string) (hc : P.cellsOf e = 1)
    (h : DataW.Trod enc P W 0 (fun _ => true) true t (.slice a len cap) d p) : ∃ zs, Strs W (.slice a len cap) zs := by
  obtain ⟨fuel, hf⟩ := h
  rcases open_strings ht he hc hf with ⟨hcs, _⟩ | ⟨x, l, c, zs, hcs, _, hl, hm, hz, _, hcell, hwz⟩
  · simp [Value.cells] at hcs
    obtain ⟨rfl, rfl, rfl⟩ := hcs
    exact ⟨[], none, 0, rfl, Nat.zero_le _, by unfold maxLen; omega, fun j hj => absurd hj (by simp), fun x hx => by cases hx⟩
  · simp [Value.cells] at hcs
    obtain ⟨rfl, rfl, rfl⟩ := hcs
    simp only [if_true] at hz
    have hlen : (zs.take len).length = len := by simp; omega
    refine ⟨zs.take len, some x, cap, by rw [hlen], by omega, hm, fun j hj => ?_, fun y hy => hwz y (List.mem_of_mem_take hy)⟩
    rw [hlen] at hj
    obtain ⟨ab, ao, spot⟩ := x
    have hspot : spot = none := by simpa [Addr.add] using World.cell?_spot (hcell 0 (by omega))
    subst hspot
    refine ⟨ab, ao, rfl, ?_⟩
    have := hcell j (by omega)
    rw [add_plain0] at this
    rw [this]
    simp [gs, List.getD, List.getElem?_take, hj]
end

theorem Ints.old {w w' : World} {k : IntKind} {v : Value} {l : List Int} (h : Ints w k v l) (o : Old w w') : Ints w' k v l := by
  obtain ⟨ad, c, h1, h2, h3, h4, h5⟩ := h
  refine ⟨ad, c, h1, h2, h3, fun j hj => ?_, h5⟩
  obtain ⟨b, of, e, hc⟩ := h4 j hj
  exact ⟨b, of, e, (o.cell (World.block_lt_of_cell? w _ hc)).trans hc⟩
theorem Strs.old {w w' : World} {v : Value} {l : List ByteArray} (h : Strs w v l) (o : Old w w') : Strs w' v l := by
  obtain ⟨ad, c, h1, h2, h3, h4, h5⟩ := h
  refine ⟨ad, c, h1, h2, h3, fun j hj => ?_, h5⟩
  obtain ⟨b, of, e, hc⟩ := h4 j hj
  exact ⟨b, of, e, (o.cell (World.block_lt_of_cell? w _ hc)).trans hc⟩
/-- A slice that is not empty has a place. -/
theorem Ints.at_ {w : World} {k : IntKind} {v : Value} {l : List Int} (h : Ints w k v l) (hl : 0 < l.length) : ∃ b o c, v = .slice (some ⟨b, o, none⟩) l.length c ∧ l.length ≤ c ∧ c ≤ maxLen ∧ b < w.heap.size ∧ ∀ j, j < l.length → w.cell? ⟨b, o + j, none⟩ = some (.int k (gi l j)) := by
  obtain ⟨ad, c, rfl, h2, h3, h4, h5⟩ := h
  obtain ⟨b, o, rfl, hc⟩ := h4 0 hl
  refine ⟨b, o, c, rfl, h2, h3, World.block_lt_of_cell? w _ hc, fun j hj => ?_⟩
  obtain ⟨b', o', e, hc'⟩ := h4 j hj
  injection e with e; injection e with e1 e2; subst e1 e2
  exact hc'
theorem Strs.at_ {w : World} {v : Value} {l : List ByteArray} (h : Strs w v l) (hl : 0 < l.length) : ∃ b o c, v = .slice (some ⟨b, o, none⟩) l.length c ∧ l.length ≤ c ∧ c ≤ maxLen ∧ b < w.heap.size ∧ ∀ j, j < l.length → w.cell? ⟨b, o + j, none⟩ = some (.string (gs l j)) := by
  obtain ⟨ad, c, rfl, h2, h3, h4, h5⟩ := h
  obtain ⟨b, o, rfl, hc⟩ := h4 0 hl
  refine ⟨b, o, c, rfl, h2, h3, World.block_lt_of_cell? w _ hc, fun j hj => ?_⟩
  obtain ⟨b', o', e, hc'⟩ := h4 j hj
  injection e with e; injection e with e1 e2; subst e1 e2
  exact hc'
end Go.Proofs.YtalkikljjffpmaaDoor
