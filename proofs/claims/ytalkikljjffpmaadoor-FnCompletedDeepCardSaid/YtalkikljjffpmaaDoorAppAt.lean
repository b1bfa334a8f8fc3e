/- Appends that tell where the new row lies; rows apart from one another. -/
import Derived.Test.YtalkikljjffpmaaDoorApp
import Derived.Maps.AppendAt
namespace Go.Proofs.YtalkikljjffpmaaDoor
open Go.RowKit
set_option linter.unusedVariables false
set_option linter.unusedSimpArgs false
set_option maxRecDepth 100000

section
variable {P : Program} {ops : Array Oper} {rest : List Oper} {o : Oper} {a : Act} {Q : Exit → Act → World → Prop} {w : World}
/-- 'append(v, x)' of one element of one cell, v nil or the call's own; where the new row lies. -/
theorem wpList_append1_at (hgd : o.guard = none) (s x : Operand) (t e T : TypeId) (z val : Value) (bytes : Nat)
    (ho : o.op = .call { callee := .builtin .append, args := #[s, x], argTypes := #[t, t] }) (ht : P.underlying t = some (.slice e))
    (hinfo : (P.info? e).map (fun i => (i.zero, i.size, i.bytes)) = some (some z, 1, bytes)) (hz : z.cells.size = 1)
    (base : Nat) (v : Value) (n : Nat) (xs : List Value) (hs : a.eval s = v) (hown : w.ownsRow base e 1 v n xs)
    (hx : a.eval x = .slice (some ⟨w.heap.size, 0, none⟩) 1 1) (h1 : val.oneCell' = true) (hbytes : (n + 1) * bytes ≤ 140737488355328) (hn : n + 1 ≤ 140737488355328) (hbase : base ≤ w.heap.size)
    (h : ∀ v' w', w'.ownsRow base e 1 v' (n + 1) (xs ++ [val]) → w.grownBy w' v.ownBlock → (∃ b c, v' = .slice (some ⟨b, 0, none⟩) (n + 1) c ∧ (v.ownBlock = some b ∨ w.heap.size ≤ b)) → wpList P ops Q rest (a.put o.dst v') w') :
    wpList P ops Q (o :: rest) a (w.alloc (.cells #[val] T)) := by
  obtain ⟨i, hi, hz0, hz1, hz2⟩ := info_parts1 hinfo
  refine wpList_append_own_at _ hgd s x t ho base e i z 1 bytes ht hi hz0 hz1 hz2 hz (by decide) v n xs hs (hown.alloc _) ⟨w.heap.size, 0, none⟩ 1 1 [val] hx rfl (cell_one_new _ _ _)
    (by intro u hu; simp at hu; rw [hu]; exact h1) (by unfold maxLen; omega) hbytes (by simp; omega) ?_
  intro v' w' hown' hgrow hnil hat
  refine h v' w' hown' ?_ ?_
  · have hg0 := World.grownBy_alloc w (.cells #[val] T) v.ownBlock
    exact hg0.trans hgrow
  · rcases hown'.2 with ⟨hv', hm⟩ | ⟨g, cap, cur, hv', _⟩
    · omega
    · refine ⟨g, cap, hv', ?_⟩
      subst hv'
      rcases hat with h1 | h1
      · exact .inl h1.symm
      · right
        have : g = (w.alloc (.cells #[val] T)).heap.size := by simpa [Value.ownBlock] using h1
        rw [this]; simp
end

/-- A row stays as it was while its block does. -/
theorem own_keep {w w' : World} {base : Nat} {e : TypeId} {sz n : Nat} {v : Value} {xs : List Value} (h : w.ownsRow base e sz v n xs) (hk : ∀ g, v.ownBlock = some g → g < w.heap.size → w'.heap[g]? = w.heap[g]?) : w'.ownsRow base e sz v n xs := by
  refine ⟨h.1, ?_⟩
  rcases h.2 with h | ⟨g, cap, cur, hv, h1, h2, h3⟩
  · exact .inl h
  · exact .inr ⟨g, cap, cur, hv, h1, (hk g (by rw [hv]; rfl) (Array.getElem?_eq_some_iff.1 h2).1).trans h2, h3⟩
theorem own_down {w : World} {b0 b1 : Nat} {e : TypeId} {sz n : Nat} {v : Value} {xs : List Value} (h : w.ownsRow b0 e sz v n xs) (hb : b1 ≤ b0) : w.ownsRow b1 e sz v n xs := by
  refine ⟨h.1, ?_⟩
  rcases h.2 with h | ⟨g, cap, cur, hv, h1, h2⟩
  · exact .inl h
  · exact .inr ⟨g, cap, cur, hv, Nat.le_trans hb h1, h2⟩
theorem own_at {w : World} {b0 g n c : Nat} {e : TypeId} {sz : Nat} {xs : List Value} (h : w.ownsRow b0 e sz (.slice (some ⟨g, 0, none⟩) n c) n xs) : w.ownsRow g e sz (.slice (some ⟨g, 0, none⟩) n c) n xs := by
  refine ⟨h.1, ?_⟩
  rcases h.2 with ⟨h, _⟩ | ⟨g', cap, cur, hv, h1, h2⟩
  · cases h
  · have hv2 := hv
    injection hv2 with e1 e2 e3; injection e1 with e1; injection e1 with e1
    subst e1
    exact .inr ⟨g, cap, cur, hv, Nat.le_refl _, h2⟩
theorem own_inside {w : World} {b0 n : Nat} {e : TypeId} {sz : Nat} {v : Value} {xs : List Value} (h : w.ownsRow b0 e sz v n xs) (q : Nat) (hq : v.ownBlock = some q) : b0 ≤ q ∧ q < w.heap.size := h.lt q hq
theorem own_grown {w w' : World} {base : Nat} {e : TypeId} {sz n : Nat} {v : Value} {xs : List Value} {r : Option Nat} (h : w.ownsRow base e sz v n xs) (hg : w.grownBy w' r) (hr : ∀ q, v.ownBlock = some q → r ≠ some q) : w'.ownsRow base e sz v n xs :=
  own_keep h fun g hg1 hg2 => hg.block g hg2 (by intro e; exact hr g hg1 e.symm)
theorem own_old {w w' : World} {base : Nat} {e : TypeId} {sz n : Nat} {v : Value} {xs : List Value} (h : w.ownsRow base e sz v n xs) (o : Old w w') : w'.ownsRow base e sz v n xs :=
  own_keep h fun g _ hg2 => o.heap hg2
end Go.Proofs.YtalkikljjffpmaaDoor
