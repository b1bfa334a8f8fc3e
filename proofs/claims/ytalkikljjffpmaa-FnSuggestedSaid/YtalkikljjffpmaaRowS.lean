/- Rows of texts of the call's own, whole; the width of a column; its texts. -/
import Derived.Test.YtalkikljjffpmaaRepl
import Derived.OwnWalk
namespace Go.Proofs.Ytalkikljjffpmaa
open Go.RowKit
set_option linter.unusedVariables false
set_option linter.unusedSimpArgs false
set_option linter.unnecessarySimpa false
set_option maxRecDepth 100000

/-- Block b is a row of these texts. -/
def RowS (w : World) (b : Nat) (T : List Bs) : Prop := w.heap[b]? = some (.cells (lineVs T).toArray 9)
theorem RowS.lt {w : World} {b : Nat} {T : List Bs} (h : RowS w b T) : b < w.heap.size := (Array.getElem?_eq_some_iff.1 h).1
theorem RowS.old {w w' : World} {b : Nat} {T : List Bs} (h : RowS w b T) (o : Old w w') : RowS w' b T := (o.heap h.lt).trans h
theorem RowS.cell {w : World} {b : Nat} {T : List Bs} (h : RowS w b T) {j : Nat} (hj : j < T.length) : w.cell? ⟨b, j, none⟩ = some (.string (tx T[j])) := by
  unfold World.cell?
  rw [h]
  simp [lineVs, hj]
theorem RowS.free {w : World} {b : Nat} {T : List Bs} (h : RowS w b T) (j : Nat) : w.frozen? ⟨b, j, none⟩ = false := by
  unfold World.frozen?
  rw [h]; simp
theorem RowS.set {w : World} {b : Nat} {T : List Bs} (h : RowS w b T) (j : Nat) (x : Bs) : RowS (w.setCell ⟨b, j, none⟩ (.string (tx x))) b (T.set j x) := by
  unfold RowS at h ⊢
  unfold World.setCell
  simp only [Array.getElem?_modify, if_true, h, Option.map_some]
  simp [lineVs, List.map_set]
theorem RowS.far {w : World} {b q : Nat} {T : List Bs} (h : RowS w b T) (j : Nat) (v : Value) (hq : b ≠ q) : RowS (w.setCell ⟨q, j, none⟩ v) b T :=
  (Below.heap_setCell w ⟨q, j, none⟩ v b (by simpa using hq)).trans h
theorem RowS.same {w : World} {b : Nat} {T : List Bs} (h : RowS w b T) {j : Nat} (hj : j < T.length) : Old w (w.setCell ⟨b, j, none⟩ (.string (tx T[j]))) := by
  have hs := h.set j T[j]
  rw [List.set_getElem_self] at hs
  refine ⟨rfl, rfl, rfl, by simp [World.setCell], fun q hq => ?_⟩
  by_cases e : q = b
  · subst e; exact hs.trans h.symm
  · exact Below.heap_setCell w ⟨b, j, none⟩ _ q (by simpa using e)

theorem RowS.of_own {w : World} {base b n : Nat} {T : List Bs} (h : w.ownsRow base 9 1 (.slice (some ⟨b, 0, none⟩) n n) n (lineVs T)) : RowS w b T := by
  obtain ⟨-, h | ⟨g, cap, cur, h0, h1, h2, h3, h4, h5, h6⟩⟩ := h
  · simp at h
  · injection h0 with e1 e2 e3; injection e1 with e1; injection e1 with e1; subst e1; subst e3
    have hc : cur.toList = lineVs T := by
      rw [← h6, List.take_of_length_le (by simp; omega)]
    have : cur = (lineVs T).toArray := by rw [← hc]
    rw [this] at h2
    exact h2
section
variable {ops : Array Oper} {rest : List Oper} {o : Oper} {a : Act} {Q : Exit → Act → World → Prop} {w : World}
/-- 'make([]string, n)': a row of its own. -/
theorem wpList_make_rows (hg : o.guard = none) (l c : Operand) (hop : o.op = Op.makeSlice 34 l c)
    (kl kc : IntKind) (L C : Int) (n : Nat) (hl : a.eval l = .int kl L) (hc : a.eval c = .int kc C) (hL : L = (n : Int)) (hC : C = (n : Int)) (hn : n ≤ 2147483648)
    (h : ∀ w', RowS w' w.heap.size (List.replicate n []) → Old w w' → w.heap.size < w'.heap.size → wpList Try.prog ops Q rest (a.put o.dst (.slice (some ⟨w.heap.size, 0, none⟩) n n)) w') :
    wpList Try.prog ops Q (o :: rest) a w := by
  obtain ⟨i, hi, hz0, hz1, hz2⟩ := info_parts1 info_str
  have hb : i.bytes * n ≤ 16 * 2147483648 := by rw [hz2]; exact Nat.mul_le_mul (Nat.le_refl _) hn
  refine wpList_make_full w hg l c 34 hop w.heap.size 9 i (.string ByteArray.empty) 1 Try.underlying34 hi hz0 hz1 kl kc L C n hl hc hL hC (by omega) (by unfold maxLen; omega) (Nat.le_refl _) ?_
  intro w' hown hgr
  have e1 : (madeCells (Value.string ByteArray.empty).cells (n * 1)).toList = lineVs (List.replicate n []) := by
    have hc1 : (Value.string ByteArray.empty).cells = #[.string ByteArray.empty] := rfl
    rw [hc1]
    apply List.ext_getElem
    · simp [madeCells, lineVs]
    · intro j h1 h2
      simp [madeCells, lineVs, Nat.mod_one]
      rfl
  rw [e1] at hown
  exact h w' (RowS.of_own hown) ((Old.refl w).grown hgr (by simp)) (own_lt hown).2.1
end

/-- The width of the widest. -/
def wid : List Bs → Nat
  | [] => 0
  | l :: L => max l.length (wid L)
theorem wid_snoc (L : List Bs) (l : Bs) : wid (L ++ [l]) = max (wid L) l.length := by
  induction L with
  | nil => simp [wid]
  | cons a L ih => simp [wid, ih, Nat.max_assoc]
theorem wid_take {L : List Bs} {k : Nat} (h : k < L.length) : wid (L.take (k + 1)) = max (wid (L.take k)) L[k].length := by
  rw [List.take_succ_eq_append_getElem h, wid_snoc]
theorem wid_le {L : List Bs} {n : Nat} (h : ∀ l ∈ L, l.length ≤ n) : wid L ≤ n := by
  induction L with
  | nil => exact Nat.zero_le _
  | cons a L ih =>
    have h1 := h a (by simp)
    have h2 := ih fun l hl => h l (by simp [hl])
    simp only [wid]; omega
/-- A text in a column of W signs. -/
def celT (W : Nat) (l : Bs) : Bs := if l.length ≤ W then l ++ List.replicate (W - l.length) 32 else l.take (W - 3) ++ [46, 46, 46]
def celP (W : Nat) (l : Bs) : Bs := 32 :: celT W l ++ [32]
/-- No room for a column, or nothing in it. -/
def noCol (L : List Bs) (m : Int) : Bool := wid L == 0 || decide (m ≤ 5)
def colW (L : List Bs) (m : Int) : Nat := min (wid L) (m - 2).toNat
def colT (L : List Bs) (m : Int) : List Bs := if noCol L m then List.replicate L.length [] else L.map (celP (colW L m))
def colN (L : List Bs) (m : Int) : Int := if noCol L m then 0 else (colW L m : Int) + 2
theorem colT_len (L : List Bs) (m : Int) : (colT L m).length = L.length := by unfold colT; split <;> simp
end Go.Proofs.Ytalkikljjffpmaa
