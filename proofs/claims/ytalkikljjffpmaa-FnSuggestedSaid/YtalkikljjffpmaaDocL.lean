/- A document's lines: zzIndex, zzSplit at line feeds. -/
import Derived.Test.YtalkikljjffpmaaDocP
namespace Go.Proofs.Ytalkikljjffpmaa
open Go.RowKit
set_option linter.unusedVariables false
set_option linter.unusedSimpArgs false
set_option linter.unnecessarySimpa false
set_option maxRecDepth 100000

theorem one_at {l : Bs} {k : Nat} (h : k < l.length) : (tx l).extract k (k + 1) = tx [l[k]] := by
  rw [extract_eq, bs_tx, Nat.add_sub_cancel_left]
  congr 1
  rw [List.drop_eq_getElem_cons h]; rfl
theorem one_nl (c : UInt8) (h : nl c = true) : tx [c] = ⟨#[10]⟩ := by
  have : c = 10 := by simpa [nl] using h
  subst this; rfl
theorem one_other (c : UInt8) (h : nl c = false) : tx [c] ≠ ⟨#[10]⟩ := by
  intro e
  have : tx [c] = tx [10] := e
  have := tx_inj this
  simp [nl] at h this
  exact h this

theorem toList_bs (s : ByteArray) : s.toList = bs s := ByteArray.toList_eq s
theorem toList10 : (⟨#[10]⟩ : ByteArray).toList = [10] := toList_bs _
theorem toList_ne {a b : ByteArray} (h : a ≠ b) : (a.toList == b.toList) = false := by
  rw [beq_eq_false_iff_ne, toList_bs, toList_bs]
  intro e
  apply h
  rw [← tx_bs a, ← tx_bs b, e]
theorem info_str : (Try.prog.info? 9).map (fun i => (i.zero, i.size, i.bytes)) = some (some (.string ByteArray.empty), 1, 16) := by kernel_rfl
def szOf (v : Value) : Nat := match v with | .string s => s.size | _ => 0
/-- The lines, as values. -/
def lineVs (L : List Bs) : List Value := L.map fun l => Value.string (tx l)
theorem lineVs_len (L : List Bs) : (lineVs L).length = L.length := by simp [lineVs]
theorem lineVs_snoc (L : List Bs) (l : Bs) : lineVs (L ++ [l]) = lineVs L ++ [Value.string (tx l)] := by simp [lineVs]
theorem splitL_size (l : Bs) : (splitL l).length ≤ l.length + 1 := by rw [splitL_len]; have := List.countP_le_length (p := nl) (l := l); omega

/-- Texts in a row of one's own: cell by cell. -/
theorem lineVs_at {w : World} {base : Nat} {e : TypeId} {v : Value} {L : List Bs} (h : w.ownsRow base e 1 v L.length (lineVs L)) (hp : 0 < L.length) : ∃ b c, v = .slice (some ⟨b, 0, none⟩) L.length c ∧ base ≤ b ∧ b < w.heap.size ∧ L.length ≤ c ∧ c ≤ maxLen ∧ ∀ j, j < L.length → w.cell? ⟨b, j, none⟩ = some (.string (tx (line L j))) := by
  obtain ⟨b, c, rfl⟩ := own_some h hp
  have h4 := own_lt h
  refine ⟨b, c, rfl, h4.1, h4.2.1, h4.2.2.1, h4.2.2.2, fun j hj => ?_⟩
  rw [own_cell h j hj, gv_lt (by rw [lineVs_len]; exact hj)]
  simp [lineVs, line, List.getD, List.getElem?_eq_getElem hj]
theorem lineVs_last {w : World} {base : Nat} {e : TypeId} {v : Value} {L : List Bs} (h : w.ownsRow base e 1 v L.length (lineVs L)) (hp : 0 < L.length) (hn : L.length ≤ 1000001) : ∃ b c n q : Nat, v = .slice (some ⟨b, 0, none⟩) n c ∧ n ≤ c ∧ c ≤ 9223372036854775807 ∧ IntKind.i64.wrap ((n : Int) - 1) = (q : Int) ∧
    (0 : Int) ≤ q ∧ (q : Int) < n ∧ w.cell? ⟨b, q, none⟩ = some (.string (tx (line L (L.length - 1)))) := by
  obtain ⟨b, c, rfl, b1, b2, b3, b4, cells⟩ := lineVs_at h hp
  unfold maxLen at b4
  exact ⟨b, c, L.length, L.length - 1, rfl, b3, by omega, by rw [IntWalk.i64_in _ (by omega)]; omega, by omega, by omega, cells _ (by omega)⟩
section
variable (p : Nat) (l : Bs) (k : Nat) (w : World) (h : DP w p l k) (hk : k ≤ l.length) (ok : okT l)
include h ok
end
end Go.Proofs.Ytalkikljjffpmaa
