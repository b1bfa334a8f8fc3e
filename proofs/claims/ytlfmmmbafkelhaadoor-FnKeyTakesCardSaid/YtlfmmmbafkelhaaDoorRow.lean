/- Rows of runes: made, read. -/
import Derived.Test.YtlfmmmbafkelhaaDoorNew
import Derived.Laws.CopyOwn
namespace Go.Proofs.YtlfmmmbafkelhaaDoor
open Go.RowKit
set_option linter.unusedVariables false
set_option linter.unusedSimpArgs false
set_option maxRecDepth 100000

theorem getElem_map_int {l : List Int} {j : Nat} {u : Value} (h : (l.map (Value.int .i32))[j]? = some u) : j < l.length ∧ u = .int .i32 (gi l j) := by
  have hj : j < (l.map (Value.int .i32)).length := (List.getElem?_eq_some_iff.1 h).1
  have hj' : j < l.length := by simpa using hj
  refine ⟨hj', ?_⟩
  rw [List.getElem?_eq_getElem hj] at h
  rw [gi_lt hj']
  simpa using h.symm
theorem one_map (l : List Int) : ∀ v ∈ l.map (Value.int .i32), v.oneCell' = true := by
  intro u hu
  obtain ⟨q, _, rfl⟩ := List.mem_map.1 hu
  rfl
section
variable {P : Program} {ops : Array Oper} {rest : List Oper} {o : Oper} {a : Act} {Q : Exit → Act → World → Prop} {w : World}
/-- 'make([]rune, n)': a new row of zeros. -/
theorem wpList_make_runes (hg : o.guard = none) (l c : Operand) (t e : TypeId) (hop : o.op = Op.makeSlice t l c) (h1 : P.underlying t = some (.slice e)) (hinfo : (P.info? e).map (fun i => (i.zero, i.size, i.bytes)) = some (some (.int .i32 0), 1, 4))
    (kl kc : IntKind) (L C : Int) (n : Nat) (hl : a.eval l = .int kl L) (hc : a.eval c = .int kc C) (hL : L = (n : Int)) (hC : C = (n : Int)) (hn : n ≤ 2147483648)
    (h : ∀ w', Hid (w'.heap[w.heap.size]? = some (.cells (List.replicate n (Value.int .i32 0)).toArray e)) → Old w w' → wpList P ops Q rest (a.put o.dst (.slice (some ⟨w.heap.size, 0, none⟩) n n)) w') :
    wpList P ops Q (o :: rest) a w := by
  obtain ⟨i, hi, hz0, hz1, hz2⟩ := info_parts1 hinfo
  refine wpList_make_full w hg l c t hop w.heap.size e i (.int .i32 0) 1 h1 hi hz0 hz1 kl kc L C n hl hc hL hC (by rw [hz2]; omega) (by unfold maxLen; omega) (Nat.le_refl _) ?_
  intro w' hown hgr
  refine h w' ?_ ((Old.refl w).grown hgr (by simp))
  rcases hown.2 with ⟨hv, _⟩ | ⟨g, cap, cur, hv, h3, h4, h5, h6, h7, h8⟩
  · cases hv
  · injection hv with hv1 hv2 hv3
    injection hv1 with hv1; injection hv1 with hv1
    subst hv1
    subst hv3
    have hcl : cur.toList.length = n := by rw [Array.length_toList, h7]; omega
    have he : cur.toList = List.replicate n (Value.int .i32 0) := by
      rw [Nat.mul_one, List.take_of_length_le (by omega)] at h8
      rw [h8]
      have hz : (Value.int .i32 0).cells = #[.int .i32 0] := rfl
      rw [hz]
      apply List.ext_getElem
      · simp [madeCells]
      · intro j h1 h2
        simp [madeCells, Nat.mod_one]
    have hcur : cur = (List.replicate n (Value.int .i32 0)).toArray := by rw [← he]
    rw [h4, hcur]
    exact rfl
end

theorem runes_of_row {w : World} {b n : Nat} {l : List Int} (h : w.heap[b]? = some (.cells (splice (List.replicate n (Value.int .i32 0)) 0 (l.map (Value.int .i32))).toArray 21)) (hl : l.length = n) (hn : n ≤ 2147483648) :
    RunesAt w (.slice (some ⟨b, 0, none⟩) n n) l := by
  subst hl
  have hs : splice (List.replicate l.length (Value.int .i32 0)) 0 (l.map (Value.int .i32)) = l.map (Value.int .i32) := by
    unfold splice; simp
  rw [hs] at h
  refine ⟨b, 0, _, rfl, Nat.le_refl _, by unfold maxLen; omega, (Array.getElem?_eq_some_iff.1 h).1, fun j hj => ?_⟩
  rw [Nat.zero_add, cell_of_heap h j]
  simp [gi, List.getD, List.getElem?_eq_getElem hj]

end Go.Proofs.YtlfmmmbafkelhaaDoor
