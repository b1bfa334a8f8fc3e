/- A region that draws, one operation at a time; an append within it. -/
import Derived.Test.YtleamondilmojaaDoorAppAt
import Derived.RegionTactic
import Derived.Deep.RegionHeld
namespace Go.Proofs.YtleamondilmojaaDoor
open Go.RowKit
set_option linter.unusedVariables false
set_option linter.unusedSimpArgs false
set_option maxRecDepth 100000
section
variable {P : Program} {ops : Array Oper} {Q : Exit → Act → World → Prop} {md : Region.Mode}
/-- One operation alone may come up. -/
theorem wpAny_one {i : Nat} {o : Oper} {fuel : Nat} {listed : Array Bool} {a : Act} {w : World} (hr : Region.ready md ops listed = [i]) (ho : ops[i]? = some o)
    (h : ∀ K' : Act → World → Prop, Shut (∀ a w, wpAny P md ops Q fuel (listed.setIfInBounds i true) a w → K' a w) → if Region.wanted o (yielded ops a.tmps) = true then Oper.wp P o a w K' Q else K' (a.put o.dst undef) w) :
    wpAny P md ops Q (fuel + 1) listed a w := by
  refine ⟨fun h0 => ?_, ?_⟩
  · rw [hr] at h0; cases h0
  · rw [hr]
    intro j hj
    have e := List.mem_singleton.1 hj
    subst e
    exact wpOp_step ho h
theorem wpAny_end {listed : Array Bool} {a : Act} {w : World} (hr : Region.ready md ops listed = []) (h : Q .normal a w) : ∀ fuel, wpAny P md ops Q fuel listed a w
  | 0 => ⟨hr, h⟩
  | _ + 1 => ⟨fun _ => h, by rw [hr]; simp⟩
variable {o : Oper} {a : Act} {K : Act → World → Prop} {w : World} {E : Prop}
theorem step_append1_at (hwant : Region.wanted o (yielded ops a.tmps) = true) (s x : Operand) (t e T : TypeId) (z val : Value) (bytes : Nat)
    (ho : o.op = .call { callee := .builtin .append, args := #[s, x], argTypes := #[t, t] }) (ht : P.underlying t = some (.slice e))
    (hinfo : (P.info? e).map (fun i => (i.zero, i.size, i.bytes)) = some (some z, 1, bytes)) (hz : z.cells.size = 1)
    (base : Nat) (v : Value) (n : Nat) (xs : List Value) (hs : a.eval s = v) (hown : w.ownsRow base e 1 v n xs)
    (hx : a.eval x = .slice (some ⟨w.heap.size, 0, none⟩) 1 1) (h1 : val.oneCell' = true) (hbytes : (n + 1) * bytes ≤ 140737488355328) (hn : n + 1 ≤ 140737488355328) (hbase : base ≤ w.heap.size)
    (h : ∀ v' w', w'.ownsRow base e 1 v' (n + 1) (xs ++ [val]) → w.grownBy w' v.ownBlock → (∃ b c, v' = .slice (some ⟨b, 0, none⟩) (n + 1) c ∧ (v.ownBlock = some b ∨ w.heap.size ≤ b)) → K (a.put o.dst v') w') :
    if Region.wanted o (yielded ops a.tmps) = true then Oper.wp P o a (w.alloc (.cells #[val] T)) K Q else E := by
  rw [if_pos hwant]
  obtain ⟨i, hi, hz0, hz1, hz2⟩ := info_parts1 hinfo
  obtain ⟨v', w', hr, hown', hgrow, hnil, hat⟩ := run_append_own_at (P := P) (w.alloc (.cells #[val] T)) base t o.type e i z 1 bytes ht hi hz0 hz1 hz2 hz (by decide) v n xs (hown.alloc _) ⟨w.heap.size, 0, none⟩ 1 1 [val] rfl (cell_one_new _ _ _)
    (by intro u hu; simp at hu; rw [hu]; exact h1) (by unfold maxLen; omega) hbytes (by simp; omega)
  unfold Oper.wp execOp
  simp only [ho, resolve, invoke, builtin, Sem.run_bind, Sem.run_pure, Result.andThen_ok, List.map_toArray, List.map_cons, List.map_nil, hs, hx, hr]
  refine h v' w' hown' ((World.grownBy_alloc w (.cells #[val] T) v.ownBlock).trans hgrow) ?_
  rcases hown'.2 with ⟨hv', hm⟩ | ⟨g, cap, cur, hv', _⟩
  · omega
  · refine ⟨g, cap, hv', ?_⟩
    subst hv'
    rcases hat with h1 | h1
    · exact .inl h1.symm
    · right
      have : g = (w.alloc (.cells #[val] T)).heap.size := by simpa [Value.ownBlock] using h1
      rw [this]; simp
end
end Go.Proofs.YtleamondilmojaaDoor
