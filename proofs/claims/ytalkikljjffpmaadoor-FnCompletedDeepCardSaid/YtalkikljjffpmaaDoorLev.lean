/- What a completer's step does at a whole word, and at one that is begun (plain). -/
import Derived.Test.YtalkikljjffpmaaDoorItems
namespace Go.Proofs.YtalkikljjffpmaaDoor
open Go.RowKit
set_option linter.unusedVariables false
set_option linter.unusedSimpArgs false
set_option linter.unnecessarySimpa false
set_option maxRecDepth 100000

/-- No blank in it. -/
def noB (l : List Int) : Prop := ∀ x ∈ l, x ≠ 32
theorem preB_iff {l p : List Int} : preB l p = true ↔ p <+: l := by
  unfold preB
  rw [decide_eq_true_iff]
  constructor
  · rintro ⟨h1, h2⟩
    rw [← h2]; exact List.take_prefix _ _
  · intro h
    exact ⟨h.length_le, (List.prefix_iff_eq_take.1 h).symm⟩
theorem preB_no {l p : List Int} (h : ¬ p <+: l) : preB l p = false := by
  cases e : preB l p with
  | false => rfl
  | true => exact absurd (preB_iff.1 e) h
theorem word_eq {a b r : List Int} (ha : noB a) (hb : noB b) (h : a ++ [32] <+: b ++ 32 :: r) : a = b := by
  induction a generalizing b with
  | nil =>
    cases b with
    | nil => rfl
    | cons y b =>
      simp at h
      exact absurd h.symm (hb y (by simp))
  | cons x a ih =>
    cases b with
    | nil =>
      simp at h
      exact absurd h.1 (ha x (by simp))
    | cons y b =>
      simp only [List.cons_append, List.cons_prefix_cons] at h
      obtain ⟨rfl, h⟩ := h
      rw [ih (fun z hz => ha z (by simp [hz])) (fun z hz => hb z (by simp [hz])) h]
theorem word_not {a b r : List Int} (ha : noB a) (h : b ++ 32 :: r <+: a ++ [32]) : r = [] ∧ b = a := by
  induction b generalizing a with
  | nil =>
    cases a with
    | nil => simp at h; exact ⟨h, rfl⟩
    | cons y a =>
      simp at h
      exact absurd h.1.symm (ha y (by simp))
  | cons x b ih =>
    cases a with
    | nil => simp at h
    | cons y a =>
      simp only [List.cons_append, List.cons_prefix_cons] at h
      obtain ⟨rfl, h⟩ := h
      obtain ⟨h1, h2⟩ := ih (fun z hz => ha z (by simp [hz])) h
      exact ⟨h1, by rw [h2]⟩
theorem begun_not {a p : List Int} (hp : noB p) (h : a ++ [32] <+: p) : False := by
  exact hp 32 (h.subset (by simp)) rfl
theorem begun_pre {a p : List Int} (hp : noB p) : p <+: a ++ [32] ↔ p <+: a := by
  constructor
  · intro h
    obtain ⟨t, ht⟩ := h
    rcases List.eq_nil_or_concat t with rfl | ⟨t', x, rfl⟩
    · rw [List.append_nil] at ht
      exact absurd rfl (hp 32 (by rw [ht]; simp))
    · rw [List.concat_eq_append, ← List.append_assoc] at ht
      obtain ⟨h1, h2⟩ := List.append_inj' ht rfl
      exact ⟨t', h1⟩
  · intro h; exact h.trans (List.prefix_append _ _)
/-- A child of another name changes nothing. -/
theorem dstep_other {a b r : List Int} {v : Value} (st : List (List Int) × Nat × Value × Bool) (ha : noB a) (hb : noB b) (hne : a ≠ b) : dstep (b ++ 32 :: r) st (a ++ [32], v) = st := by
  unfold dstep
  have h1 : preB (b ++ 32 :: r) (a ++ [32]) = false := preB_no fun h => hne (word_eq ha hb h)
  have h2 : preB (a ++ [32]) (b ++ 32 :: r) = false := preB_no fun h => hne (word_not ha h).2.symm
  simp only [h1, h2]
  split <;> simp
theorem dstep_same {b r : List Int} {v : Value} (st : List (List Int) × Nat × Value × Bool) (hr : r ≠ []) : dstep (b ++ 32 :: r) st (b ++ [32], v) = (st.1 ++ [b ++ [32]], b.length + 1, v, true) := by
  unfold dstep
  have hl : 1 ≤ r.length := by cases r with | nil => exact absurd rfl hr | cons x r => simp
  have h1 : preB (b ++ 32 :: r) (b ++ [32]) = true := preB_iff.2 ⟨r, by simp⟩
  have h2 : (b ++ [32]).length ≤ (b ++ 32 :: r).length := by simp
  have h3 : ¬ (b ++ 32 :: r).length = (b ++ [32]).length := by simp; omega
  simp only [h1, h2, h3, if_true, if_false]
  simp
theorem foldl_skip {C : List (List Int × Value)} {ln : List Int} : ∀ st : List (List Int) × Nat × Value × Bool, (∀ c ∈ C, ∀ st, dstep ln st c = st) → C.foldl (dstep ln) st = st := by
  induction C with
  | nil => intro st _; rfl
  | cons c C ih =>
    intro st h
    rw [List.foldl_cons, h c (by simp)]
    exact ih st fun d hd => h d (by simp [hd])
/-- At a whole word, and more. -/
theorem dfold_word {C : List (List Int × Value)} {A : List (List Int)} {b r : List Int} {i : Nat} (hl : C.length = A.length) (hn : ∀ j (h : j < C.length) (h' : j < A.length), C[j].1 = A[j] ++ [32]) (hA : ∀ a ∈ A, noB a) (hi : i < A.length) (hb : A[i] = b) (hd : ∀ j (h : j < A.length), j ≠ i → A[j] ≠ b) (hr : r ≠ []) (hiC : i < C.length) :
    dfold (b ++ 32 :: r) C = ([b ++ [32]], b.length + 1, C[i].2, true) := by
  have hnb : noB b := hb ▸ hA _ (List.getElem_mem hi)
  have other : ∀ j (h : j < C.length), j ≠ i → ∀ st, dstep (b ++ 32 :: r) st C[j] = st := fun j h hj st => by
    have h' : j < A.length := by omega
    have e : C[j] = (A[j] ++ [32], C[j].2) := Prod.ext (hn j h h') rfl
    rw [e]
    exact dstep_other st (hA _ (List.getElem_mem h')) hnb (hd j h' hj)
  have eC : C = C.take i ++ C[i] :: C.drop (i + 1) := by rw [← List.drop_eq_getElem_cons hiC, List.take_append_drop]
  unfold dfold
  have e : C[i] = (b ++ [32], C[i].2) := Prod.ext (by rw [hn i hiC hi, hb]) rfl
  have h1 : (C.take i).foldl (dstep (b ++ 32 :: r)) ([], 0, Value.nilIface, false) = ([], 0, Value.nilIface, false) := foldl_skip _ fun c hc st => by
    obtain ⟨j, hj, rfl⟩ := List.getElem_of_mem hc
    rw [List.length_take] at hj
    rw [List.getElem_take]
    exact other j (by omega) (by omega) st
  have h2 : ∀ st, (C.drop (i + 1)).foldl (dstep (b ++ 32 :: r)) st = st := fun st => foldl_skip _ fun c hc st => by
    obtain ⟨j, hj, rfl⟩ := List.getElem_of_mem hc
    rw [List.length_drop] at hj
    rw [List.getElem_drop]
    exact other (i + 1 + j) (by omega) (by omega) st
  have key : C.foldl (dstep (b ++ 32 :: r)) ([], 0, Value.nilIface, false) = (C.take i ++ C[i] :: C.drop (i + 1)).foldl (dstep (b ++ 32 :: r)) ([], 0, Value.nilIface, false) := by rw [← eC]
  rw [key, List.foldl_append, List.foldl_cons, h1, h2, e, dstep_same _ hr]
  rfl
/-- At a word that is begun. -/
theorem dfold_begun {p : List Int} (hp : noB p) : ∀ (C : List (List Int × Value)) (A : List (List Int)) (st : List (List Int) × Nat × Value × Bool), st.2.2.2 = false → C.map Prod.fst = A.map (fun a => a ++ [32]) →
    (C.foldl (dstep p) st).1 = st.1 ++ outS A p ∧ (C.foldl (dstep p) st).2.2.2 = false ∧ (C.foldl (dstep p) st).2.1 = if outS A p = [] then st.2.1 else p.length
  | [], [], st, h, _ => by simp [outS, h]
  | [], a :: A, st, h, e => by simp at e
  | c :: C, [], st, h, e => by simp at e
  | c :: C, a :: A, st, h, e => by
    simp only [List.map_cons, List.cons.injEq] at e
    obtain ⟨e1, e2⟩ := e
    rw [List.foldl_cons]
    have h1 : preB p (a ++ [32]) = false := preB_no fun h => begun_not hp h
    by_cases hb : p <+: a
    · have h2 : preB (a ++ [32]) p = true := preB_iff.2 ((begun_pre hp).2 hb)
      have h3 : preB a p = true := preB_iff.2 hb
      have h4 : ¬ (a ++ [32]).length ≤ p.length := by have := hb.length_le; simp; omega
      have ds : dstep p st c = (st.1 ++ [a.drop p.length ++ [32]], p.length, c.2, st.2.2.2) := by
        unfold dstep
        rw [e1, if_neg h4, h2, List.drop_append_of_le_length hb.length_le]
        rfl
      obtain ⟨i1, i2, i3⟩ := dfold_begun hp C A (dstep p st c) (by rw [ds]; exact h) e2
      have eo : outS (a :: A) p = (a.drop p.length ++ [32]) :: outS A p := by unfold outS; simp [List.filter_cons, h3]
      refine ⟨by rw [i1, ds, eo]; simp, i2, ?_⟩
      rw [i3, ds, eo]
      simp
    · have h2 : preB (a ++ [32]) p = false := preB_no fun h => hb ((begun_pre hp).1 h)
      have h3 : preB a p = false := preB_no hb
      have ds : dstep p st c = st := by
        unfold dstep
        rw [e1, h1, h2]
        split <;> simp
      have eo : outS (a :: A) p = outS A p := by unfold outS; simp [List.filter_cons, h3]
      rw [ds, eo]
      exact dfold_begun hp C A st h e2
end Go.Proofs.YtalkikljjffpmaaDoor
