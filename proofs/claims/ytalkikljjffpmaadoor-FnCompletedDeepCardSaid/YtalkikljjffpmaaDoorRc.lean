/- Slices of runes in blocks of the call's own, wherever in their blocks; an append to one; rows of such slices. -/
import Derived.Test.YtalkikljjffpmaaDoorApp
import Derived.ArgAppend
namespace Go.Proofs.YtalkikljjffpmaaDoor
open Go.RowKit
set_option linter.unusedVariables false
set_option linter.unusedSimpArgs false
set_option linter.unnecessarySimpa false
set_option maxRecDepth 100000

/-- u is a slice of runes that reads l, in block b, all of whose capacity may be written. -/
def RC (w : World) (e : TypeId) (u : Value) (l : List Int) (b : Nat) : Prop :=
  ∃ o c cur, u = .slice (some ⟨b, o, none⟩) l.length c ∧ w.heap[b]? = some (.cells cur e (0, 0)) ∧ o + c ≤ cur.size ∧ l.length ≤ c ∧ c ≤ maxLen ∧ ∀ j, j < l.length → cur[o + j]? = some (.int .i32 (gi l j))
theorem RC.lt {w : World} {e : TypeId} {u : Value} {l : List Int} {b : Nat} (h : RC w e u l b) : b < w.heap.size := by
  obtain ⟨o, c, cur, -, h1, -⟩ := h
  exact (Array.getElem?_eq_some_iff.1 h1).1
theorem RC.runes {w : World} {e : TypeId} {u : Value} {l : List Int} {b : Nat} (h : RC w e u l b) : RunesAt w u l := by
  have hlt := h.lt
  obtain ⟨o, c, cur, rfl, h1, h2, h3, h4, h5⟩ := h
  refine ⟨b, o, c, rfl, h3, h4, hlt, fun j hj => ?_⟩
  unfold World.cell?
  rw [h1]
  simp [h5 j hj]
theorem RC.keep {w w' : World} {e : TypeId} {u : Value} {l : List Int} {b : Nat} (h : RC w e u l b) (k : w'.heap[b]? = w.heap[b]?) : RC w' e u l b := by
  obtain ⟨o, c, cur, rfl, h1, h2⟩ := h
  exact ⟨o, c, cur, rfl, k.trans h1, h2⟩
theorem RC.old {w w' : World} {e : TypeId} {u : Value} {l : List Int} {b : Nat} (h : RC w e u l b) (o : Old w w') : RC w' e u l b := h.keep (o.heap h.lt)
theorem RC.far {w : World} {e : TypeId} {u : Value} {l : List Int} {b q j : Nat} {v : Value} (h : RC w e u l b) (hq : b ≠ q) : RC (w.setCell ⟨q, j, none⟩ v) e u l b :=
  h.keep (Below.heap_setCell w ⟨q, j, none⟩ v b (by simpa using hq))
theorem RC.of_own {w : World} {base : Nat} {e : TypeId} {v : Value} {l : List Int} {n : Nat} (h : w.ownsRow base e 1 v n (l.map (Value.int .i32))) (hn : 1 ≤ n) : ∃ b, RC w e v l b ∧ base ≤ b := by
  have hl : l.length = n := by have := h.1; simpa using this
  subst hl
  rcases h.2 with ⟨_, h0⟩ | ⟨g, cap, cur, hv, h1, h2, h3, h4, h5, h6⟩
  · omega
  · refine ⟨g, ⟨0, cap, cur, hv, h2, by omega, h3, h4, fun j hj => ?_⟩, h1⟩
    have : (cur.toList.take (l.length * 1))[j]? = some (.int .i32 (gi l j)) := by
      rw [h6]; simp [gi, List.getD, List.getElem?_eq_getElem hj]
    rw [List.getElem?_take_of_lt (by omega)] at this
    simpa using this
theorem RC.drop {w : World} {e : TypeId} {b o n c : Nat} {l : List Int} {k : Nat} (h : RC w e (.slice (some ⟨b, o, none⟩) n c) l b) (hk : k ≤ l.length) (hc : k < c) : RC w e (.slice (some ⟨b, o + k, none⟩) (n - k) (c - k)) (l.drop k) b := by
  obtain ⟨o', c', cur, hv, h1, h2, h3, h4, h5⟩ := h
  injection hv with e1 e2 e3; injection e1 with e1; injection e1 with e4 e1
  subst e1 e2 e3
  refine ⟨o + k, c - k, cur, by simp, h1, by omega, by simp; omega, by unfold maxLen at *; omega, fun j hj => ?_⟩
  rw [List.length_drop] at hj
  rw [gi_drop, Nat.add_assoc]
  exact h5 (k + j) (by omega)
theorem RC.none {w : World} {e : TypeId} {b o n c : Nat} {l : List Int} {k : Nat} (h : RC w e (.slice (some ⟨b, o, none⟩) n c) l b) (hk : l.length ≤ k) : RC w e (.slice (some ⟨b, o, none⟩) 0 0) (l.drop k) b := by
  obtain ⟨o', c', cur, hv, h1, h2, h3, h4, h5⟩ := h
  injection hv with e1 e2 e3; injection e1 with e1; injection e1 with e4 e1
  subst e1 e2 e3
  rw [List.drop_of_length_le hk]
  exact ⟨o, 0, cur, rfl, h1, by omega, Nat.le_refl _, by unfold maxLen; omega, fun j hj => absurd hj (by simp)⟩
section
variable {P : Program} {ops : Array Oper} {rest : List Oper} {o : Oper} {a : Act} {Q : Exit → Act → World → Prop} {w : World}
/-- 'append(u, x)', u as above. -/
theorem wpList_append_rc (hgd : o.guard = none) (s x : Operand) (t e T : TypeId) (ho : o.op = .call { callee := .builtin .append, args := #[s, x], argTypes := #[t, t] }) (ht : P.underlying t = some (.slice e))
    (hinfo : (P.info? e).map (fun i => (i.zero, i.size, i.bytes)) = some (some (.int .i32 0), 1, 4)) (u : Value) (l : List Int) (b : Nat) (hs : a.eval s = u) (h : RC w e u l b) (X : Int)
    (hx : a.eval x = .slice (some ⟨w.heap.size, 0, none⟩) 1 1) (hn : l.length ≤ 1000000)
    (hK : ∀ u' w' b', RC w' e u' (l ++ [X]) b' → (b' = b ∨ w.heap.size ≤ b') → w.grownBy w' (some b) → wpList P ops Q rest (a.put o.dst u') w') :
    wpList P ops Q (o :: rest) a (w.alloc (.cells #[.int .i32 X] T)) := by
  have hlt := h.lt
  obtain ⟨i, hi, hz0, hz1, hz2⟩ := info_parts1 hinfo
  obtain ⟨o', c, cur, rfl, h1, h2, h3, h4, h5⟩ := h
  have ob : (w.alloc (.cells #[.int .i32 X] T)).heap[b]? = w.heap[b]? := (Old.alloc w _).heap hlt
  have hcell : ∀ j, (w.alloc (.cells #[.int .i32 X] T)).cell? ⟨b, j, none⟩ = cur[j]? := fun j => by
    unfold World.cell?; rw [ob, h1]; simp
  have hfree : ∀ j, (w.alloc (.cells #[.int .i32 X] T)).frozen? ⟨b, j, none⟩ = false := fun j => by
    unfold World.frozen?; rw [ob, h1]; simp
  refine wpList_append_arg (w.alloc (.cells #[.int .i32 X] T)) hgd s x t ho e i (.int .i32 0) 1 4 ht hi hz0 hz1 hz2 rfl (by decide) b o' l.length c (l.map (Value.int .i32)) hs (by simp) (fun j u hu => ?_)
    ⟨w.heap.size, 0, none⟩ 1 1 [.int .i32 X] hx rfl (cell_one_new _ _ _) (by intro u hu; simp at hu; rw [hu]; rfl) (fun hr j hj => ⟨?_, hfree _⟩) (by unfold maxLen; omega) (by omega) (fun hr => ?_) (fun hr v' w' hown hgr => ?_)
  · have hj : j < l.length := by have := (List.getElem?_eq_some_iff.1 hu).1; simpa using this
    rw [hcell, h5 j hj]
    rw [List.getElem?_map, List.getElem?_eq_getElem hj] at hu
    simp at hu
    rw [← hu, gi_lt hj]
  · rw [hcell]
    have hj0 : j = 0 := by simpa using hj
    subst hj0
    have : o' + l.length * 1 + 0 < cur.size := by omega
    rw [Array.getElem?_eq_getElem this]; rfl
  · refine hK _ _ b ?_ (.inl rfl) ?_
    · have hh : ((w.alloc (.cells #[.int .i32 X] T)).setCells b (o' + l.length * 1) [.int .i32 X]).heap[b]? = some (.cells (cur.setIfInBounds (o' + l.length) (.int .i32 X)) e (0, 0)) := by
        simp only [World.setCells, World.setCell, Nat.mul_one]
        simp [Array.getElem?_modify, ob, h1]
      refine ⟨o', c, _, by simp, hh, by simp; omega, by simp; omega, h4, fun j hj => ?_⟩
      by_cases e1 : j = l.length
      · subst e1
        rw [Array.getElem?_setIfInBounds_self_of_lt (by omega)]
        simp [gi, List.getD]
      · have hj' : j < l.length := by simp at hj; omega
        rw [Array.getElem?_setIfInBounds_ne (by omega), h5 j hj']
        simp [gi, List.getD, List.getElem?_append, hj']
    · have hg := World.grownBy_alloc w (.cells #[.int .i32 X] T) (some b)
      refine ⟨hg.os, hg.tape, hg.output, by simp [World.setCells, World.setCell], fun q hq hne => ?_⟩
      have := Below.heap_setCell (w.alloc (.cells #[.int .i32 X] T)) ⟨b, o' + l.length * 1, none⟩ (.int .i32 X) q (by simp at hne ⊢; exact hne)
      exact this.trans (hg.block q hq hne)
  · have hown' : w'.ownsRow (w.alloc (.cells #[.int .i32 X] T)).heap.size e 1 v' (l.length + 1) ((l ++ [X]).map (Value.int .i32)) := by simpa using hown
    obtain ⟨b', hb', hbb⟩ := RC.of_own hown' (by omega)
    refine hK _ _ b' hb' (.inr (by simp at hbb; omega)) ?_
    have hg := World.grownBy_alloc w (.cells #[.int .i32 X] T) (some b)
    exact ⟨hgr.os.trans hg.os, hgr.tape.trans hg.tape, hgr.output.trans hg.output, Nat.le_trans hg.size hgr.size, fun q hq hne => (hgr.block q (Nat.lt_of_lt_of_le hq hg.size) (by simp)).trans (hg.block q hq hne)⟩
end
/-- The values us are such slices of the texts of Q, in the blocks that Q names. -/
def RQ (w : World) (e : TypeId) (us : List Value) (Q : List (List Int × Nat)) : Prop := us.length = Q.length ∧ ∀ j (h : j < Q.length), RC w e (gv us j) Q[j].1 Q[j].2
theorem RQ.nil (w : World) (e : TypeId) : RQ w e [] [] := ⟨rfl, fun j h => absurd h (by simp)⟩
theorem RQ.old {w w' : World} {e : TypeId} {us : List Value} {Q : List (List Int × Nat)} (h : RQ w e us Q) (o : Old w w') : RQ w' e us Q := ⟨h.1, fun j hj => (h.2 j hj).old o⟩
theorem RQ.keep {w w' : World} {e : TypeId} {us : List Value} {Q : List (List Int × Nat)} (h : RQ w e us Q) (k : ∀ q ∈ Q, w'.heap[q.2]? = w.heap[q.2]?) : RQ w' e us Q := ⟨h.1, fun j hj => (h.2 j hj).keep (k _ (List.getElem_mem hj))⟩
theorem RQ.snoc {w : World} {e : TypeId} {us : List Value} {Q : List (List Int × Nat)} {u : Value} {q : List Int × Nat} (h : RQ w e us Q) (hu : RC w e u q.1 q.2) : RQ w e (us ++ [u]) (Q ++ [q]) := by
  have hlen := h.1
  refine ⟨by simp [hlen], fun j hj => ?_⟩
  by_cases e1 : j < Q.length
  · rw [gv_append_left (by omega)]
    have : (Q ++ [q])[j] = Q[j] := List.getElem_append_left e1
    rw [this]; exact h.2 j e1
  · have hj' : j = Q.length := by simp at hj; omega
    subst hj'
    have e2 : gv (us ++ [u]) Q.length = u := by rw [← hlen]; exact gv_append_at
    have e3 : (Q ++ [q])[Q.length] = q := by simp
    rw [e2, e3]; exact hu
theorem gv_set {us : List Value} {j k : Nat} {u : Value} (hk : k < us.length) : gv (us.set k u) j = if j = k then u else gv us j := by
  unfold gv
  simp only [List.getD]
  by_cases e : j = k
  · subst e; simp [hk]
  · rw [List.getElem?_set_ne (by omega)]; simp [e]
end Go.Proofs.YtalkikljjffpmaaDoor
