/- Slices of pairs of texts; rows of pairs of the call's own. -/
import Derived.Test.YtalkikljjffpmaaRowS
namespace Go.Proofs.Ytalkikljjffpmaa
open Go.RowKit
set_option linter.unusedVariables false
set_option linter.unusedSimpArgs false
set_option linter.unnecessarySimpa false
set_option maxRecDepth 100000

/-- A slice of pairs of texts. -/
def PR (w : World) (v : Value) (L : List (Bs × Bs)) : Prop :=
  ∃ ad c, v = .slice ad L.length c ∧ L.length ≤ c ∧ c ≤ maxLen ∧ ∀ j (h : j < L.length), ∃ b o, ad = some ⟨b, o, none⟩ ∧ b < w.heap.size ∧ w.cell? ⟨b, o + j * 2, none⟩ = some (.string (tx L[j].1)) ∧ w.cell? ⟨b, o + j * 2 + 1, none⟩ = some (.string (tx L[j].2))
theorem PR.old {w w' : World} {v : Value} {L : List (Bs × Bs)} (h : PR w v L) (o : Old w w') : PR w' v L := by
  obtain ⟨ad, c, h0, h1, h2, h3⟩ := h
  refine ⟨ad, c, h0, h1, h2, fun j hj => ?_⟩
  obtain ⟨b, q, e, hb, c1, c2⟩ := h3 j hj
  exact ⟨b, q, e, Nat.lt_of_lt_of_le hb o.size, (o.cell hb).trans c1, (o.cell hb).trans c2⟩
def pairVs : List (Bs × Bs) → List Value
  | [] => []
  | p :: L => .string (tx p.1) :: .string (tx p.2) :: pairVs L
theorem pairVs_len : ∀ L : List (Bs × Bs), (pairVs L).length = L.length * 2
  | [] => rfl
  | p :: L => by simp only [pairVs, List.length_cons, pairVs_len L]; omega
theorem pairVs_set : ∀ (L : List (Bs × Bs)) (k : Nat) (x y : Bs), ((pairVs L).set (k * 2) (.string (tx x))).set (k * 2 + 1) (.string (tx y)) = pairVs (L.set k (x, y))
  | [], k, x, y => by simp [pairVs]
  | p :: L, 0, x, y => by simp [pairVs]
  | p :: L, k + 1, x, y => by
    have h := pairVs_set L k x y
    rw [show (k + 1) * 2 = k * 2 + 1 + 1 by omega]
    simp only [pairVs, List.set_cons_succ]
    rw [h]
theorem pairVs_get : ∀ (L : List (Bs × Bs)) (k : Nat) (h : k < L.length), (pairVs L)[k * 2]? = some (.string (tx L[k].1)) ∧ (pairVs L)[k * 2 + 1]? = some (.string (tx L[k].2))
  | [], k, h => absurd h (by simp)
  | p :: L, 0, h => by simp [pairVs]
  | p :: L, k + 1, h => by
    have := pairVs_get L k (by simpa using h)
    rw [show (k + 1) * 2 = k * 2 + 1 + 1 by omega]
    simpa [pairVs] using this
/-- Block b is a row of these pairs. -/
def RowQ (w : World) (b : Nat) (L : List (Bs × Bs)) : Prop := w.heap[b]? = some (.cells (pairVs L).toArray 43)
theorem RowQ.lt {w : World} {b : Nat} {L : List (Bs × Bs)} (h : RowQ w b L) : b < w.heap.size := (Array.getElem?_eq_some_iff.1 h).1
theorem RowQ.old {w w' : World} {b : Nat} {L : List (Bs × Bs)} (h : RowQ w b L) (o : Old w w') : RowQ w' b L := (o.heap h.lt).trans h
theorem RowQ.cell {w : World} {b : Nat} {L : List (Bs × Bs)} (h : RowQ w b L) {j : Nat} (hj : j < L.length) : w.cell? ⟨b, j * 2, none⟩ = some (.string (tx L[j].1)) ∧ w.cell? ⟨b, j * 2 + 1, none⟩ = some (.string (tx L[j].2)) := by
  obtain ⟨h1, h2⟩ := pairVs_get L j hj
  unfold World.cell?
  rw [h]
  simp only [List.getElem?_toArray]
  exact ⟨by simpa using h1, by simpa using h2⟩
theorem RowQ.free {w : World} {b : Nat} {L : List (Bs × Bs)} (h : RowQ w b L) (j : Nat) : w.frozen? ⟨b, j, none⟩ = false := by
  unfold World.frozen?
  rw [h]; simp
theorem RowQ.set {w : World} {b : Nat} {L : List (Bs × Bs)} (h : RowQ w b L) (k : Nat) (x y : Bs) : RowQ ((w.setCell ⟨b, k * 2, none⟩ (.string (tx x))).setCell ⟨b, k * 2 + 1, none⟩ (.string (tx y))) b (L.set k (x, y)) := by
  unfold RowQ at h ⊢
  rw [← pairVs_set]
  unfold World.setCell
  simp only [Array.getElem?_modify, if_true, h, Option.map_some]
  simp
theorem RowQ.far {w : World} {b q : Nat} {L : List (Bs × Bs)} (h : RowQ w b L) (j : Nat) (v : Value) (hq : b ≠ q) : RowQ (w.setCell ⟨q, j, none⟩ v) b L :=
  (Below.heap_setCell w ⟨q, j, none⟩ v b (by simpa using hq)).trans h
theorem RowQ.pr {w : World} {b : Nat} {L : List (Bs × Bs)} (h : RowQ w b L) (hn : L.length ≤ 1000000) : PR w (.slice (some ⟨b, 0, none⟩) L.length L.length) L := by
  refine ⟨_, _, rfl, Nat.le_refl _, by unfold maxLen; omega, fun j hj => ⟨b, 0, rfl, h.lt, ?_, ?_⟩⟩
  · rw [Nat.zero_add]; exact (h.cell hj).1
  · rw [Nat.zero_add]; exact (h.cell hj).2
theorem info_sugQ : (Try.prog.info? 43).map (fun i => (i.zero, i.size, i.bytes)) = some (some (.agg #[.string ByteArray.empty, .string ByteArray.empty]), 2, 32) := by kernel_rfl
theorem pairVs_rep : ∀ n, pairVs (List.replicate n ([], [])) = List.replicate (n * 2) (Value.string ByteArray.empty)
  | 0 => rfl
  | n + 1 => by
    rw [show (n + 1) * 2 = n * 2 + 1 + 1 by omega, List.replicate_succ, List.replicate_succ, List.replicate_succ, ← pairVs_rep n]
    rfl
theorem RowQ.of_own {w : World} {base b n : Nat} {L : List (Bs × Bs)} (h : w.ownsRow base 43 2 (.slice (some ⟨b, 0, none⟩) n n) n (pairVs L)) : RowQ w b L := by
  obtain ⟨-, h | ⟨g, cap, cur, h0, h1, h2, h3, h4, h5, h6⟩⟩ := h
  · simp at h
  · injection h0 with e1 e2 e3; injection e1 with e1; injection e1 with e1; subst e1; subst e3
    have hc : cur.toList = pairVs L := by
      rw [← h6, List.take_of_length_le (by simp; omega)]
    have : cur = (pairVs L).toArray := by rw [← hc]
    rw [this] at h2
    exact h2
section
variable {ops : Array Oper} {rest : List Oper} {o : Oper} {a : Act} {Q : Exit → Act → World → Prop} {w : World}
/-- 'make([]prompt.Suggest, n)': a row of its own. -/
theorem wpList_make_rowq (hg : o.guard = none) (l c : Operand) (hop : o.op = Op.makeSlice 38 l c)
    (kl kc : IntKind) (L C : Int) (n : Nat) (hl : a.eval l = .int kl L) (hc : a.eval c = .int kc C) (hL : L = (n : Int)) (hC : C = (n : Int)) (hn : n ≤ 2147483648)
    (h : ∀ w', RowQ w' w.heap.size (List.replicate n ([], [])) → Old w w' → w.heap.size < w'.heap.size → wpList Try.prog ops Q rest (a.put o.dst (.slice (some ⟨w.heap.size, 0, none⟩) n n)) w') :
    wpList Try.prog ops Q (o :: rest) a w := by
  obtain ⟨i, hi, hz0, hz1, hz2⟩ := info_parts1 info_sugQ
  have hb : i.bytes * n ≤ 32 * 2147483648 := by rw [hz2]; exact Nat.mul_le_mul (Nat.le_refl _) hn
  refine wpList_make_full w hg l c 38 hop w.heap.size 43 i (.agg #[.string ByteArray.empty, .string ByteArray.empty]) 2 Try.underlying38 hi hz0 hz1 kl kc L C n hl hc hL hC (by omega) (by unfold maxLen; omega) (Nat.le_refl _) ?_
  intro w' hown hgr
  have e1 : (madeCells (Value.agg #[.string ByteArray.empty, .string ByteArray.empty]).cells (n * 2)).toList = pairVs (List.replicate n ([], [])) := by
    have hc1 : (Value.agg #[.string ByteArray.empty, .string ByteArray.empty]).cells = #[.string ByteArray.empty, .string ByteArray.empty] := rfl
    rw [hc1, pairVs_rep]
    apply List.ext_getElem
    · simp [madeCells]
    · intro j h1 h2
      rcases Nat.mod_two_eq_zero_or_one j with e | e <;> simp [madeCells, e]
  rw [e1] at hown
  have hr := RowQ.of_own hown
  exact h w' hr ((Old.refl w).grown hgr (by simp)) hr.lt
end
end Go.Proofs.Ytalkikljjffpmaa
