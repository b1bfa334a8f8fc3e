/- A text that was changed in its place in a history is found there again: in plain words. -/
import Derived.Test.YtbkdppfjmfepiaaTurnM
namespace Go.Proofs.Ytbkdppfjmfepiaa
set_option linter.unusedVariables false
set_option linter.unusedSimpArgs false
set_option maxRecDepth 100000

def adds (L : List ByteArray) : List Trn := L.map fun s => (1, s)
def five (c : ByteArray) : List Trn := [(4, ⟨#[]⟩), (2, ⟨#[120]⟩), (3, c), (2, ⟨#[121]⟩), (3, c)]
theorem adds_snoc (L : List ByteArray) (s : ByteArray) : adds (L ++ [s]) = adds L ++ [(1, s)] := by simp [adds]
theorem adds_len (L : List ByteArray) : (adds L).length = L.length := by simp [adds]
theorem hAll_adds : ∀ (n : Nat) (L : List ByteArray), L.length = n → (hAll (adds L)).1.hs = L ∧ (hAll (adds L)).2.1.length = L.length ∧ (hAll (adds L)).2.2.length = L.length
  | 0, L, h => by
    have : L = [] := List.eq_nil_of_length_eq_zero h
    subst this
    simp [adds, hAll_nil, HM.new]
  | n + 1, L, h => by
    obtain ⟨M, s, rfl⟩ : ∃ M s, L = M ++ [s] := ⟨L.dropLast, L.getLast (by intro e; rw [e] at h; simp at h), (List.dropLast_concat_getLast _).symm⟩
    have ih := hAll_adds n M (by simpa using h)
    rw [adds_snoc, hAll_snoc, hStep1 rfl]
    simp [ih.1, ih.2.1, ih.2.2]
theorem set_len {l : List ByteArray} {x y : ByteArray} : (l ++ [x]).set l.length y = l ++ [y] := by rw [List.set_append_right _ _ (Nat.le_refl _), Nat.sub_self]; rfl
theorem gs_last {l : List ByteArray} {x : ByteArray} : gs (l ++ [x]) l.length = x := by unfold gs; simp
theorem gs_first {l : List ByteArray} {x : ByteArray} {k : Nat} (h : k < l.length) : gs (l ++ [x]) k = gs l k := by unfold gs; simp [List.getElem?_append, h]
theorem kept (L : List ByteArray) (c : ByteArray) (hL : 0 < L.length) : ∃ ts bs, hAll (adds L ++ five c) = ((hAll (adds L ++ five c)).1, ts ++ [⟨#[]⟩, gs L (L.length - 1), ⟨#[120]⟩, c, ⟨#[121]⟩], bs ++ [false, true, true, true, true]) ∧ ts.length = L.length ∧ bs.length = L.length := by
  obtain ⟨h1, h2, h3⟩ := hAll_adds L.length L rfl
  generalize hA : hAll (adds L) = A at h1 h2 h3
  have e0 : hAll (adds L ++ five c) = hAll (adds L ++ [(4, ⟨#[]⟩)] ++ [(2, ⟨#[120]⟩)] ++ [(3, c)] ++ [(2, ⟨#[121]⟩)] ++ [(3, c)]) := by simp [five]
  rw [e0]
  have s1 : hAll (adds L ++ [(4, ⟨#[]⟩)]) = (⟨L, L ++ [⟨#[]⟩], L.length⟩, A.2.1 ++ [⟨#[]⟩], A.2.2 ++ [false]) := by rw [hAll_snoc, hA, hStep4 rfl, h1]
  have s2 : hAll (adds L ++ [(4, ⟨#[]⟩)] ++ [(2, ⟨#[120]⟩)]) = (⟨L, L ++ [⟨#[120]⟩], L.length - 1⟩, A.2.1 ++ [⟨#[]⟩] ++ [gs L (L.length - 1)], A.2.2 ++ [false] ++ [true]) := by
    rw [hAll_snoc, s1, hStep2b rfl (by show L.length ≠ 0; omega)]
    dsimp only
    rw [set_len, gs_first (by omega)]
  have s3 : hAll (adds L ++ [(4, ⟨#[]⟩)] ++ [(2, ⟨#[120]⟩)] ++ [(3, c)]) = (⟨L, L.set (L.length - 1) c ++ [⟨#[120]⟩], L.length⟩, A.2.1 ++ [⟨#[]⟩] ++ [gs L (L.length - 1)] ++ [⟨#[120]⟩], A.2.2 ++ [false] ++ [true] ++ [true]) := by
    rw [hAll_snoc, s2, hStep3b rfl (by simp; omega)]
    dsimp only
    have : L.length - 1 + 1 = L.length := by omega
    rw [this, gs_last, List.set_append_left _ _ (by omega)]
  have s4 : hAll (adds L ++ [(4, ⟨#[]⟩)] ++ [(2, ⟨#[120]⟩)] ++ [(3, c)] ++ [(2, ⟨#[121]⟩)]) = (⟨L, L.set (L.length - 1) c ++ [⟨#[121]⟩], L.length - 1⟩, A.2.1 ++ [⟨#[]⟩] ++ [gs L (L.length - 1)] ++ [⟨#[120]⟩] ++ [c], A.2.2 ++ [false] ++ [true] ++ [true] ++ [true]) := by
    rw [hAll_snoc, s3, hStep2b rfl (by show L.length ≠ 0; omega)]
    dsimp only
    have e : L.length = (L.set (L.length - 1) c).length := by simp
    have e2 : ((L.set (L.length - 1) c) ++ [(⟨#[120]⟩ : ByteArray)]).set L.length ⟨#[121]⟩ = (L.set (L.length - 1) c) ++ [⟨#[121]⟩] := by
      have := set_len (l := L.set (L.length - 1) c) (x := (⟨#[120]⟩ : ByteArray)) (y := ⟨#[121]⟩)
      rwa [← e] at this
    rw [e2, gs_first (by simp; omega)]
    have e3 : gs (L.set (L.length - 1) c) (L.length - 1) = c := by
      unfold gs; rw [List.getD_eq_getElem?_getD, List.getElem?_set_self (by omega)]; rfl
    rw [e3]
  have s5 : (hAll (adds L ++ [(4, ⟨#[]⟩)] ++ [(2, ⟨#[120]⟩)] ++ [(3, c)] ++ [(2, ⟨#[121]⟩)] ++ [(3, c)])).2 = (A.2.1 ++ [⟨#[]⟩] ++ [gs L (L.length - 1)] ++ [⟨#[120]⟩] ++ [c] ++ [⟨#[121]⟩], A.2.2 ++ [false] ++ [true] ++ [true] ++ [true] ++ [true]) := by
    rw [hAll_snoc, s4, hStep3b rfl (by simp; omega)]
    dsimp only
    have e1 : L.length - 1 + 1 = (L.set (L.length - 1) c).length := by simp; omega
    rw [e1, gs_last]
  refine ⟨A.2.1, A.2.2, ?_, h2, h3⟩
  refine Prod.ext rfl ?_
  rw [s5]
  simp
end Go.Proofs.Ytbkdppfjmfepiaa
