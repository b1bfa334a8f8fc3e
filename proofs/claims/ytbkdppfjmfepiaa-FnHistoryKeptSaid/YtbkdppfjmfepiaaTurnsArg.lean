/- Turns that come in. -/
import Derived.Test.YtbkdppfjmfepiaaArgs
import Derived.Test.YtbkdppfjmfepiaaTurnM
import Derived.Deep.SlicePairs
namespace Go.Proofs.Ytbkdppfjmfepiaa
open Go.RowKit Go.ChangeShapes Go.WideShapes
set_option linter.unusedVariables false
set_option linter.unusedSimpArgs false
set_option linter.unnecessarySimpa false
set_option maxRecDepth 100000

/-- A slice of turns that came in. -/
def Turns (w : World) (v : Value) (l : List Trn) : Prop :=
  ∃ ad c, v = .slice ad l.length c ∧ l.length ≤ c ∧ c ≤ maxLen ∧ (∀ j, j < l.length → ∃ b o, ad = some ⟨b, o, none⟩ ∧ w.cell? ⟨b, o + j * 2, none⟩ = some (.int .i64 (gt l j).1) ∧ w.cell? ⟨b, o + (j * 2 + 1), none⟩ = some (.string (gt l j).2)) ∧
    ∀ j, j < l.length → (Lit.int .i64 (gt l j).1).wf = true ∧ (gt l j).2.size ≤ maxLen
def intIn (v : Value) : Int := match v with | .int _ n => n | _ => 0
def strIn (v : Value) : ByteArray := match v with | .string s => s | _ => ⟨#[]⟩
section
variable {H : Type} {enc : TypeId × Value → H} {P : Program} {W : World}
theorem turns_open {t e : TypeId} {f0 f1 : Field} {a : Option Addr} {len cap : Nat} {d : DataW H} {p : List MemPlace} (ht : P.underlying t = some (.slice e)) (he : P.underlying e = some (.struct #[f0, f1]))
    (ce : P.cellsOf e = 2) (o0 : f0.offset = 0) (o1 : f1.offset = 1) (c0 : P.cellsOf f0.type = 1) (c1 : P.cellsOf f1.type = 1) (u0 : P.underlying f0.type = some (.int .i64)) (u1 : P.underlying f1.type = some .string)
    (h : DataW.Trod enc P W 0 (fun _ => true) true t (.slice a len cap) d p) : ∃ zs, Turns W (.slice a len cap) zs := by
  obtain ⟨fuel, hf⟩ := h
  rcases Go.Deep.open_slice_pairs ht he ce o0 o1 c0 c1 hf with ⟨hcs, _⟩ | ⟨x, l, c, m, n, V0, V1, D0, D1, P0, P1, hcs, _, hl, hm, hmm, _, hx⟩
  · simp [Value.cells] at hcs
    obtain ⟨rfl, rfl, rfl⟩ := hcs
    exact ⟨[], none, 0, rfl, Nat.zero_le _, by unfold maxLen; omega, fun j hj => absurd hj (by simp), fun j hj => absurd hj (by simp)⟩
  · simp [Value.cells] at hcs
    obtain ⟨rfl, rfl, rfl⟩ := hcs
    simp only [if_true] at hmm
    have hz : ((List.range len).map fun i => ((intIn (V0 i), strIn (V1 i)) : Trn)).length = len := by simp
    have hg : ∀ j, j < len → gt ((List.range len).map fun i => ((intIn (V0 i), strIn (V1 i)) : Trn)) j = (intIn (V0 j), strIn (V1 j)) := fun j hj => by
      rw [gt_lt (by rw [hz]; exact hj)]; simp
    have hv : ∀ j, j < len → V0 j = .int .i64 (intIn (V0 j)) ∧ V1 j = .string (strIn (V1 j)) ∧ (Lit.int .i64 (intIn (V0 j))).wf = true ∧ (strIn (V1 j)).size ≤ maxLen := fun j hj => by
      obtain ⟨_, _, g0, g1⟩ := hx j (by omega)
      obtain ⟨b, eb, _, wb⟩ := DataW.trod_int u0 g0
      obtain ⟨s, es, _, ws⟩ := DataW.trod_string u1 g1
      have e0 : V0 j = .int .i64 b := by simpa using eb
      have e1 : V1 j = .string s := by simpa using es
      rw [e0, e1]
      exact ⟨rfl, rfl, wb, ws⟩
    refine ⟨(List.range len).map fun i => ((intIn (V0 i), strIn (V1 i)) : Trn), some x, cap, by rw [hz], by omega, hm, fun j hj => ?_, fun j hj => ?_⟩
    · rw [hz] at hj
      obtain ⟨ab, ao, spot⟩ := x
      have hspot : spot = none := by simpa [Addr.add] using World.cell?_spot (hx 0 (by omega)).1
      subst hspot
      obtain ⟨h0, h1, _, _⟩ := hx j (by omega)
      rw [add_plain0] at h0 h1
      rw [hg j hj]
      exact ⟨ab, ao, rfl, h0.trans (by rw [(hv j hj).1]; rfl), h1.trans (by rw [(hv j hj).2.1]; rfl)⟩
    · rw [hz] at hj
      rw [hg j hj]
      exact ⟨(hv j hj).2.2.1, (hv j hj).2.2.2⟩
end
theorem Turns.old {w w' : World} {v : Value} {l : List Trn} (h : Turns w v l) (o : Old w w') : Turns w' v l := by
  obtain ⟨ad, c, h1, h2, h3, h4, h5⟩ := h
  refine ⟨ad, c, h1, h2, h3, fun j hj => ?_, h5⟩
  obtain ⟨b, of, e, hc, hd⟩ := h4 j hj
  exact ⟨b, of, e, (o.cell (World.block_lt_of_cell? w _ hc)).trans hc, (o.cell (World.block_lt_of_cell? w _ hd)).trans hd⟩
theorem Turns.cells {w : World} {ad : Option Addr} {n c : Nat} {l : List Trn} (h : Turns w (.slice ad n c) l) (k : Nat) (hk : k < l.length) : ∃ b o, ad = some ⟨b, o, none⟩ ∧
    w.cell? ⟨b, o + k * 2, none⟩ = some (.int .i64 (gt l k).1) ∧ w.cell? ⟨b, o + (k * 2 + 1), none⟩ = some (.string (gt l k).2) := by
  obtain ⟨ad', c', e, h2, h3, h4, h5⟩ := h
  injection e with e1 e2 e3
  subst e1
  exact h4 k hk
/-- A row of turns that is not empty has a place. -/
theorem Turns.at_ {w : World} {v : Value} {l : List Trn} (h : Turns w v l) (hl : 0 < l.length) : ∃ b o c, v = .slice (some ⟨b, o, none⟩) l.length c ∧ l.length ≤ c ∧ c ≤ maxLen ∧ b < w.heap.size ∧
    (∀ j, j < l.length → w.cell? ⟨b, o + j * 2, none⟩ = some (.int .i64 (gt l j).1)) ∧ ∀ j, j < l.length → w.cell? ⟨b, o + (j * 2 + 1), none⟩ = some (.string (gt l j).2) := by
  obtain ⟨ad, c, rfl, h2, h3, h4, h5⟩ := h
  obtain ⟨b, o, rfl, hc, _⟩ := h4 0 hl
  have hall : ∀ j, j < l.length → w.cell? ⟨b, o + j * 2, none⟩ = some (.int .i64 (gt l j).1) ∧ w.cell? ⟨b, o + (j * 2 + 1), none⟩ = some (.string (gt l j).2) := fun j hj => by
    obtain ⟨b', o', e, hc'⟩ := h4 j hj
    injection e with e; injection e with e1 e2; subst e1 e2
    exact hc'
  exact ⟨b, o, c, rfl, h2, h3, World.block_lt_of_cell? w _ hc, fun j hj => (hall j hj).1, fun j hj => (hall j hj).2⟩
end Go.Proofs.Ytbkdppfjmfepiaa
