/- Rows of one's own that lie apart; an append of a whole row. -/
import Derived.Test.YtalkikljjffpmaaDoorAppAt
import Derived.Laws.AppendOwnNone
namespace Go.Proofs.YtalkikljjffpmaaDoor
open Go.RowKit
set_option linter.unusedVariables false
set_option linter.unusedSimpArgs false
set_option maxRecDepth 100000

section
variable {P : Program} {ops : Array Oper} {rest : List Oper} {o : Oper} {a : Act} {Q : Exit → Act → World → Prop} {w : World}
/-- 'append(v, u...)', both rows of the call's own, or nil. -/
theorem wpList_append_row (hgd : o.guard = none) (s x : Operand) (t e : TypeId) (z : Value) (bytes : Nat)
    (ho : o.op = .call { callee := .builtin .append, args := #[s, x], argTypes := #[t, t] }) (ht : P.underlying t = some (.slice e))
    (hinfo : (P.info? e).map (fun i => (i.zero, i.size, i.bytes)) = some (some z, 1, bytes)) (hz : z.cells.size = 1)
    (base : Nat) (v : Value) (n : Nat) (xs : List Value) (hs : a.eval s = v) (hown : w.ownsRow base e 1 v n xs)
    (base2 : Nat) (u : Value) (m : Nat) (ys : List Value) (hx : a.eval x = u) (hu : w.ownsRow base2 e 1 u m ys) (h1 : ∀ y ∈ ys, y.oneCell' = true) (hbytes : (n + m) * bytes ≤ 140737488355328) (hn : n + m ≤ 140737488355328) (hbase : base ≤ w.heap.size)
    (h : ∀ v' w', w'.ownsRow base e 1 v' (n + m) (xs ++ ys) → w.grownBy w' v.ownBlock → (v'.ownBlock = v.ownBlock ∨ v'.ownBlock = some w.heap.size) → wpList P ops Q rest (a.put o.dst v') w') :
    wpList P ops Q (o :: rest) a w := by
  obtain ⟨i, hi, hz0, hz1, hz2⟩ := info_parts1 hinfo
  have hl : ys.length = m := by have := hu.1; omega
  rcases hu.2 with ⟨rfl, rfl⟩ | ⟨g, cap, cur, rfl, hg⟩
  · have hy : ys = [] := List.eq_nil_of_length_eq_zero hl
    subst hy
    refine wpList_append_own_none hgd s x t ho base e i 1 ht hi v n xs hs hown hx ?_
    have := h v w (by simpa using hown) (World.grownBy.refl w _) (.inl rfl)
    exact this
  · refine wpList_append_own_at w hgd s x t ho base e i z 1 bytes ht hi hz0 hz1 hz2 hz (by decide) v n xs hs hown ⟨g, 0, none⟩ m cap ys hx (by omega) (hu.cells (g := g) rfl) h1 (by unfold maxLen; omega) hbytes hbase ?_
    intro v' w' hown' hgrow _ hat
    exact h v' w' hown' hgrow hat
end

/-- Two slices lie in two blocks. -/
def Ap (v u : Value) : Prop := ∀ q, v.ownBlock = some q → u.ownBlock ≠ some q
theorem Ap.symm {v u : Value} (h : Ap v u) : Ap u v := fun q h1 h2 => h q h2 h1
theorem Ap.grow {w : World} {v u : Value} {base sz n b n' c' : Nat} {e : TypeId} {xs : List Value} (h : Ap v u) (hu : w.ownsRow base e sz u n xs) (hb : v.ownBlock = some b ∨ w.heap.size ≤ b) : Ap (.slice (some ⟨b, 0, none⟩) n' c') u := by
  intro q h1 h2
  obtain rfl : b = q := by simpa [Value.ownBlock] using h1
  rcases hb with h3 | h3
  · exact h b h3 h2
  · have := (own_inside hu b h2).2; omega
theorem Ap.fresh {w : World} {u : Value} {base sz n b n' c' : Nat} {e : TypeId} {xs : List Value} (hu : w.ownsRow base e sz u n xs) (hb : w.heap.size ≤ b) : Ap (.slice (some ⟨b, 0, none⟩) n' c') u := by
  intro q h1 h2
  obtain rfl : b = q := by simpa [Value.ownBlock] using h1
  have := (own_inside hu b h2).2; omega
theorem Ap.nil (u : Value) : Ap (.slice none 0 0) u := fun q h => by simp [Value.ownBlock] at h
theorem Ap.nil' (u : Value) : Ap u (.slice none 0 0) := (Ap.nil u).symm
theorem own_apart {w w' : World} {base : Nat} {e : TypeId} {sz n : Nat} {v u : Value} {xs : List Value} (h : w.ownsRow base e sz u n xs) (hg : w.grownBy w' v.ownBlock) (ha : Ap v u) : w'.ownsRow base e sz u n xs :=
  own_grown h hg fun q h1 h2 => ha q h2 h1
theorem own_set {w : World} {base b j : Nat} {e : TypeId} {sz n n' c' : Nat} {u x : Value} {xs : List Value} (h : w.ownsRow base e sz u n xs) (ha : Ap (.slice (some ⟨b, 0, none⟩) n' c') u) : (w.setCell ⟨b, j, none⟩ x).ownsRow base e sz u n xs :=
  own_keep h fun g hg _ => Below.heap_setCell w ⟨b, j, none⟩ x g (by
    intro e
    have e' : g = b := by simpa using e
    subst e'
    exact ha g rfl hg)
theorem own_nil1 (w : World) (base : Nat) (e : TypeId) : w.ownsRow base e 1 (.slice none 0 0) 0 [] := ⟨rfl, .inl ⟨rfl, rfl⟩⟩
theorem bcell4 {w : World} {b : Nat} {C : Array Value} {t : TypeId} {fr : Nat × Nat} (h : w.heap[b]? = some (.cells C t fr)) (j : Nat) : w.cell? ⟨b, j, none⟩ = C[j]? := by
  unfold World.cell?; rw [h]; simp
theorem strs_one (l : List ByteArray) : ∀ y ∈ l.map Value.string, y.oneCell' = true := by
  intro y hy
  obtain ⟨x, _, rfl⟩ := List.mem_map.1 hy
  rfl
theorem far_cell4 (w : World) {p i q j : Nat} (v : Value) (h : q ≠ p ∨ j ≠ i) : (w.setCell ⟨p, i, none⟩ v).cell? ⟨q, j, none⟩ = w.cell? ⟨q, j, none⟩ := by
  rw [World.cell?_setCell_other]
  intro e
  have e1 := congrArg Addr.block e
  have e2 := congrArg Addr.off e
  simp at e1 e2
  omega
theorem own_empty (w : World) (e : TypeId) : (w.alloc (.cells #[] e)).ownsRow w.heap.size e 1 (.slice (some ⟨w.heap.size, 0, none⟩) 0 0) 0 [] :=
  ⟨rfl, .inr ⟨w.heap.size, 0, #[], rfl, Nat.le_refl _, heap_alloc_new w _, Nat.le_refl _, by unfold maxLen; omega, rfl, rfl⟩⟩
end Go.Proofs.YtalkikljjffpmaaDoor
