/- Appends of elements of several cells that stand in a new block. -/
import Derived.Test.YtalkikljjffpmaaDoorAppAt
namespace Go.Proofs.YtalkikljjffpmaaDoor
open Go.RowKit
set_option linter.unusedVariables false
set_option linter.unusedSimpArgs false
set_option maxRecDepth 100000

section
variable {P : Program} {ops : Array Oper} {rest : List Oper} {o : Oper} {a : Act} {Q : Exit → Act → World → Prop} {w : World}
theorem wpList_append_new (hgd : o.guard = none) (s x : Operand) (t e T : TypeId) (z : Value) (sz bytes : Nat)
    (ho : o.op = .call { callee := .builtin .append, args := #[s, x], argTypes := #[t, t] }) (ht : P.underlying t = some (.slice e))
    (hinfo : (P.info? e).map (fun i => (i.zero, i.size, i.bytes)) = some (some z, sz, bytes)) (hz : z.cells.size = sz) (hsz : 0 < sz)
    (base : Nat) (v : Value) (n : Nat) (xs : List Value) (hs : a.eval s = v) (hown : w.ownsRow base e sz v n xs)
    (m : Nat) (C : Array Value) (hC : C.size = m * sz) (hm : 0 < m) (hx : a.eval x = .slice (some ⟨w.heap.size, 0, none⟩) m m) (h1 : ∀ y ∈ C.toList, y.oneCell' = true) (hbytes : (n + m) * bytes ≤ 140737488355328) (hn : n + m ≤ 140737488355328) (hbase : base ≤ w.heap.size)
    (h : ∀ v' w', w'.ownsRow base e sz v' (n + m) (xs ++ C.toList) → w.grownBy w' v.ownBlock → (∃ b c, v' = .slice (some ⟨b, 0, none⟩) (n + m) c ∧ (v.ownBlock = some b ∨ w.heap.size ≤ b)) → wpList P ops Q rest (a.put o.dst v') w') :
    wpList P ops Q (o :: rest) a (w.alloc (.cells C T)) := by
  obtain ⟨i, hi, hz0, hz1, hz2⟩ : ∃ i, P.info? e = some i ∧ i.zero = some z ∧ i.size = sz ∧ i.bytes = bytes := by
    cases hi : P.info? e with
    | none => rw [hi] at hinfo; simp at hinfo
    | some i => rw [hi] at hinfo; simp at hinfo; exact ⟨i, rfl, hinfo.1, hinfo.2.1, hinfo.2.2⟩
  have hc : ∀ (j : Nat) u, C.toList[j]? = some u → (w.alloc (.cells C T)).cell? ((⟨w.heap.size, 0, none⟩ : Addr).add j) = some u := by
    intro j u hu
    have hadd : (⟨w.heap.size, 0, none⟩ : Addr).add j = ⟨w.heap.size, j, none⟩ := by unfold Addr.add; split <;> simp_all
    rw [hadd]
    refine (World.cell?_alloc_mark w C T (0, 0) j).trans ?_
    rw [← Array.getElem?_toList]; exact hu
  refine wpList_append_own_at _ hgd s x t ho base e i z sz bytes ht hi hz0 hz1 hz2 hz hsz v n xs hs (hown.alloc _) ⟨w.heap.size, 0, none⟩ m m C.toList hx (by simp [hC]) hc h1 (by unfold maxLen; omega) hbytes (by simp; omega) ?_
  intro v' w' hown' hgrow hnil hat
  refine h v' w' hown' ((World.grownBy_alloc w (.cells C T) v.ownBlock).trans hgrow) ?_
  rcases hown'.2 with ⟨hv', hm'⟩ | ⟨g, cap, cur, hv', _⟩
  · omega
  · refine ⟨g, cap, hv', ?_⟩
    subst hv'
    rcases hat with h1 | h1
    · exact .inl h1.symm
    · right
      have : g = (w.alloc (.cells C T)).heap.size := by simpa [Value.ownBlock] using h1
      rw [this]; simp
end
end Go.Proofs.YtalkikljjffpmaaDoor
