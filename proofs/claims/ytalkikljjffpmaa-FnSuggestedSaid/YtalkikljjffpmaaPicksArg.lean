/- Suggestions that come in. -/
import Derived.Test.YtalkikljjffpmaaRowQ
import Derived.Deep.SlicePairs
namespace Go.Proofs.Ytalkikljjffpmaa
open Go.RowKit Go.ChangeShapes Go.WideShapes
set_option linter.unusedVariables false
set_option linter.unusedSimpArgs false
set_option linter.unnecessarySimpa false
set_option maxRecDepth 100000

/-- A slice of pairs of texts that came in. -/
def Picks (w : World) (v : Value) (L : List (Bs × Bs)) : Prop := PR w v L ∧ ∀ p ∈ L, p.1.length ≤ maxLen ∧ p.2.length ≤ maxLen
def strOf (v : Value) : Bs := match v with | .string s => bs s | _ => []
theorem add_at (b o k : Nat) : (⟨b, o, none⟩ : Addr).add k = ⟨b, o + k, none⟩ := by unfold Addr.add; split <;> simp_all
section
variable {H : Type} {enc : TypeId × Value → H} {P : Program} {W : World}
theorem picks_open {t e : TypeId} {f0 f1 : Field} {a : Option Addr} {len cap : Nat} {d : DataW H} {p : List MemPlace} (ht : P.underlying t = some (.slice e)) (he : P.underlying e = some (.struct #[f0, f1]))
    (ce : P.cellsOf e = 2) (o0 : f0.offset = 0) (o1 : f1.offset = 1) (c0 : P.cellsOf f0.type = 1) (c1 : P.cellsOf f1.type = 1) (u0 : P.underlying f0.type = some .string) (u1 : P.underlying f1.type = some .string)
    (h : DataW.Trod enc P W 0 (fun _ => true) true t (.slice a len cap) d p) : ∃ zs, Picks W (.slice a len cap) zs := by
  obtain ⟨fuel, hf⟩ := h
  rcases Go.Deep.open_slice_pairs ht he ce o0 o1 c0 c1 hf with ⟨hcs, _⟩ | ⟨x, l, c, m, n, V0, V1, D0, D1, P0, P1, hcs, _, hl, hm, hmm, _, hx⟩
  · simp [Value.cells] at hcs
    obtain ⟨rfl, rfl, rfl⟩ := hcs
    exact ⟨[], ⟨none, 0, rfl, Nat.zero_le _, by unfold maxLen; omega, fun j hj => absurd hj (by simp)⟩, fun p hp => by cases hp⟩
  · simp [Value.cells] at hcs
    obtain ⟨rfl, rfl, rfl⟩ := hcs
    simp only [if_true] at hmm
    have hz : ((List.range len).map fun i => (strOf (V0 i), strOf (V1 i))).length = len := by simp
    have hv : ∀ j, j < len → V0 j = .string (tx (strOf (V0 j))) ∧ V1 j = .string (tx (strOf (V1 j))) ∧ (strOf (V0 j)).length ≤ maxLen ∧ (strOf (V1 j)).length ≤ maxLen := fun j hj => by
      obtain ⟨_, _, g0, g1⟩ := hx j (by omega)
      obtain ⟨r, er, _, wr⟩ := DataW.trod_string u0 g0
      obtain ⟨s, es, _, ws⟩ := DataW.trod_string u1 g1
      have e0 : V0 j = .string r := by simpa using er
      have e1 : V1 j = .string s := by simpa using es
      rw [e0, e1]
      exact ⟨rfl, rfl, wr, ws⟩
    refine ⟨(List.range len).map fun i => (strOf (V0 i), strOf (V1 i)), ⟨some x, cap, by rw [hz], by omega, hm, fun j hj => ?_⟩, fun p hp => ?_⟩
    · have hj' : j < len := by simpa using hj
      obtain ⟨ab, ao, spot⟩ := x
      have hspot : spot = none := by simpa [Addr.add] using World.cell?_spot (hx 0 (by omega)).1
      subst hspot
      obtain ⟨h0, h1, _, _⟩ := hx j (by omega)
      rw [add_at] at h0 h1
      refine ⟨ab, ao, rfl, World.block_lt_of_cell? W _ h0, h0.trans ?_, h1.trans ?_⟩
      · rw [(hv j hj').1]; simp
      · rw [(hv j hj').2.1]; simp
    · obtain ⟨j, hj, rfl⟩ := List.mem_map.1 hp
      exact ⟨(hv j (List.mem_range.1 hj)).2.2.1, (hv j (List.mem_range.1 hj)).2.2.2⟩
end
theorem Picks.old {w w' : World} {v : Value} {L : List (Bs × Bs)} (h : Picks w v L) (o : Old w w') : Picks w' v L := ⟨h.1.old o, h.2⟩
end Go.Proofs.Ytalkikljjffpmaa
