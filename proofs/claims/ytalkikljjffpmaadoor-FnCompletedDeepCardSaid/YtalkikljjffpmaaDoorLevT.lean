/- readline.doInternal at a tree of three levels. -/
import Derived.Test.YtalkikljjffpmaaDoorLev
namespace Go.Proofs.YtalkikljjffpmaaDoor
open Go.RowKit
set_option linter.unusedVariables false
set_option linter.unusedSimpArgs false
set_option linter.unnecessarySimpa false
set_option maxRecDepth 100000

/-- Small letters, one at least. -/
def smL (l : List Int) : Prop := l ≠ [] ∧ ∀ x ∈ l, 97 ≤ x ∧ x ≤ 122
theorem smL.noB {l : List Int} (h : smL l) : noB l := fun x hx => by have := h.2 x hx; omega
theorem smL_lead {l t : List Int} (h : smL l) : lead (l ++ t) = 0 := by
  obtain ⟨h1, h2⟩ := h
  cases l with
  | nil => exact absurd rfl h1
  | cons x l =>
    have := h2 x (by simp)
    unfold lead spB
    rw [List.cons_append, List.takeWhile_cons]
    have e : decide (x = 32 ∨ (9 ≤ x ∧ x ≤ 13)) = false := decide_eq_false (by omega)
    rw [e]; rfl
theorem gi_append_right {a b : List Int} {j : Nat} : gi (a ++ b) (a.length + j) = gi b j := by
  unfold gi; rw [List.getD_eq_getElem?_getD, List.getD_eq_getElem?_getD, List.getElem?_append_right (by omega), Nat.add_sub_cancel_left]
section
variable {α : Type} {nm : α → ByteArray} {P : α → World → Value → Prop}
theorem NodeP.old (hP : ∀ x w w' kv, P x w kv → Old w w' → P x w' kv) {x : α} {w w' : World} {u : Value} (h : NodeP nm P x w u) (o : Old w w') : NodeP nm P x w' u := by
  obtain ⟨p, ns, fv, kv, b, rfl, h1, h2, h3⟩ := h
  exact ⟨p, ns, fv, kv, b, rfl, (o.heap (Array.getElem?_eq_some_iff.1 h1).1).trans h1, h2.old o, hP _ _ _ _ h3 o⟩
theorem RowP.old (hP : ∀ x w w' kv, P x w kv → Old w w' → P x w' kv) {F : List α} {w w' : World} {kv : Value} (h : RowP nm P F w kv) (o : Old w w') : RowP nm P F w' kv := by
  obtain ⟨ad, c, rfl, h⟩ := h
  refine ⟨ad, c, rfl, fun j hj => ?_⟩
  obtain ⟨b, of, u, e, hb, hc, hk, hn⟩ := h j hj
  exact ⟨b, of, u, e, Nat.lt_of_lt_of_le hb o.size, (o.cell hb).trans hc, hk, hn.old hP o⟩
theorem row_kids {F : List α} {w : World} {kv : Value} (h : RowP nm P F w kv) : ∃ C : List (List Int × Value), C.length = F.length ∧ Kids w kv C ∧ ∀ j (h1 : j < C.length) (h2 : j < F.length), C[j].1 = nums (nm F[j]) ++ [32] ∧ NodeP nm P F[j] w C[j].2 := by
  obtain ⟨ad, c, rfl, h⟩ := h
  have pick : ∃ f : Nat → Value, ∀ j (hj : j < F.length), ∃ b o, ad = some ⟨b, o, none⟩ ∧ b < w.heap.size ∧ w.cell? ⟨b, o + j, none⟩ = some (f j) ∧ NodeP nm P F[j] w (f j) := by
    have h' : ∀ j : Nat, ∃ u : Value, j < F.length → ∃ b o, ad = some ⟨b, o, none⟩ ∧ b < w.heap.size ∧ w.cell? ⟨b, o + j, none⟩ = some u ∧ ∃ hj : j < F.length, NodeP nm P F[j] w u := fun j => by
      by_cases hj : j < F.length
      · obtain ⟨b, o, u, q⟩ := h j hj
        exact ⟨u, fun _ => ⟨b, o, q⟩⟩
      · exact ⟨Value.nilIface, fun k => absurd k hj⟩
    obtain ⟨f, hf⟩ := Classical.axiomOfChoice h'
    refine ⟨f, fun j hj => ?_⟩
    obtain ⟨b, o, e, hb, hc, hk, hn⟩ := hf j hj
    exact ⟨b, o, e, hb, hc, hn⟩
  obtain ⟨f, hf⟩ := pick
  have hz : ((List.range F.length).map fun j => (if hj : j < F.length then nums (nm F[j]) ++ [32] else [], f j)).length = F.length := by simp
  have hC : ∀ j (hj : j < F.length), ((List.range F.length).map fun j => (if hj : j < F.length then nums (nm F[j]) ++ [32] else [], f j))[j]'(by rw [hz]; exact hj) = (nums (nm F[j]) ++ [32], f j) := fun j hj => by simp [hj]
  refine ⟨(List.range F.length).map fun j => (if hj : j < F.length then nums (nm F[j]) ++ [32] else [], f j), hz, ⟨ad, c, by rw [hz], fun j hj => ?_⟩, fun j h1 h2 => ?_⟩
  · rw [hz] at hj
    obtain ⟨b, o, e, hb, hc, hn⟩ := hf j hj
    refine ⟨b, o, f j, e, hb, hc, by rw [hz]; exact hj, by rw [hC j hj], ?_⟩
    rw [hC j hj]
    obtain ⟨p, ns, fv, kv, b2, h1, h2, h3, -⟩ := hn
    exact ⟨p, ns, fv, kv, b2, h1, h2, h3⟩
  · rw [hC j h2]
    obtain ⟨b, o, e, hb, hc, hn⟩ := hf j h2
    exact ⟨rfl, hn⟩
/-- At a whole word, and more: the step goes on at its completer. -/
theorem level_any (p : Nat) (lv orig kv : Value) (F : List α) (i : Nat) (rr : List Int) (w : World) (R : Value → Nat → World → Prop) (hp : w.cell? ⟨p, 3, none⟩ = some kv) (hk : RowP nm P F w kv) (hF : F.length ≤ 100) (hs : ∀ x ∈ F, smL (nums (nm x)) ∧ (nm x).size ≤ 100) (hi : i < F.length)
    (hd : ∀ j (h : j < F.length), j ≠ i → nums (nm F[j]) ≠ nums (nm F[i])) (hr : rr ≠ []) (hr2 : gi rr 0 ≠ 32) (hra : ∀ j, j < rr.length → 0 ≤ gi rr j ∧ gi rr j < 128) (hrl : rr.length ≤ 500) (hl : RunesAt w lv (nums (nm F[i]) ++ 32 :: rr))
    (hrec : ∀ u tv w', Old w w' → NodeP nm P F[i] w u → RunesAt w' tv rr → Calls Tryd.prog 57 #[u, tv, .int .i64 (rr.length : Nat), orig] w' (DPost R)) :
    Calls Tryd.prog 57 #[.iface 71 (.pointer (some ⟨p, 0, none⟩)), lv, .int .i64 ((nums (nm F[i]) ++ 32 :: rr).length : Nat), orig] w (DPost R) := by
  obtain ⟨C, hCF, hK, hCn⟩ := row_kids hk
  have hx := hs _ (List.getElem_mem hi)
  have hiC : i < C.length := by omega
  have D := dfold_word (C := C) (A := F.map fun x => nums (nm x)) (b := nums (nm F[i])) (r := rr) (i := i) (by simp; omega) (fun j h h' => by
      have := (hCn j h (by simpa using h')).1
      simpa using this) (fun a ha => by
      obtain ⟨x, hxm, rfl⟩ := List.mem_map.1 ha
      exact (hs x hxm).1.noB) (by simpa using hi) (by simp) (fun j h hji => by
      have := hd j (by simpa using h) hji
      simpa using this) hr hiC
  have hbl : (nums (nm F[i])).length ≤ 100 := by rw [length_nums]; exact hx.2
  have hdrop : (nums (nm F[i]) ++ 32 :: rr).drop ((nums (nm F[i])).length + 1) = rr := by
    rw [List.drop_append]; simp
  have hgi : ∀ j, gi (nums (nm F[i]) ++ 32 :: rr) ((nums (nm F[i])).length + 1 + j) = gi rr j := fun j => by
    rw [Nat.add_assoc, gi_append_right, Nat.add_comm 1 j]; simp [gi, List.getD]
  refine doi_any p 0 lv orig kv C (nums (nm F[i]) ++ 32 :: rr) w R hp hK hl (smL_lead hx.1) (fun j hj => ?_) (by omega) (by simp; omega) (fun c hc => ?_) (.inr ?_)
  · rcases Nat.lt_trichotomy j (nums (nm F[i])).length with h | h | h
    · have e : gi (nums (nm F[i]) ++ 32 :: rr) j = (nums (nm F[i]))[j] := by rw [gi_lt hj, List.getElem_append_left h]
      have := hx.1.2 _ (List.getElem_mem h)
      rw [e]; omega
    · subst h
      have : gi (nums (nm F[i]) ++ 32 :: rr) ((nums (nm F[i])).length + 0) = gi (32 :: rr) 0 := gi_append_right
      rw [Nat.add_zero] at this
      rw [this]; simp [gi, List.getD]
    · have e := hgi (j - (nums (nm F[i])).length - 1)
      rw [show (nums (nm F[i])).length + 1 + (j - (nums (nm F[i])).length - 1) = j by omega] at e
      rw [e]
      refine hra _ ?_
      simp at hj; omega
  · obtain ⟨j, hj, rfl⟩ := List.getElem_of_mem hc
    rw [(hCn j hj (by omega)).1, List.length_append, length_nums]
    have := (hs _ (List.getElem_mem (show j < F.length by omega))).2
    simp; omega
  · rw [D]
    have hrl1 : 1 ≤ rr.length := by cases rr with | nil => exact absurd rfl hr | cons x t => simp
    refine ⟨rfl, by simp; omega, ?_, fun tv w' o ht => ?_⟩
    · have e := hgi 0
      rw [Nat.add_zero] at e
      simp only
      rw [e]; exact hr2
    · simp only at ht ⊢
      rw [hdrop] at ht ⊢
      exact hrec _ tv w' o (hCn i hiC hi).2 ht
def LeafR (A : List (List Int)) (pg : List Int) (w : World) (ov : Value) (off : Nat) (w' : World) : Prop := ∃ us Q B, Old w w' ∧ w.heap.size ≤ B ∧ SegJ w' B ov us Q ∧ Q.map Prod.fst = outS A pg ∧ off = if outS A pg = [] then 0 else pg.length
/-- At a word that is begun. -/
theorem leaf_any (p : Nat) (lv orig kv : Value) (F : List α) (pg : List Int) (w : World) (hp : w.cell? ⟨p, 3, none⟩ = some kv) (hk : RowP nm P F w kv) (hF : F.length ≤ 100) (hs : ∀ x ∈ F, (nm x).size ≤ 100) (hpg : smL pg) (hpl : pg.length ≤ 100) (hl : RunesAt w lv pg) :
    Calls Tryd.prog 57 #[.iface 71 (.pointer (some ⟨p, 0, none⟩)), lv, .int .i64 (pg.length : Nat), orig] w (DPost (LeafR (F.map fun x => nums (nm x)) pg w)) := by
  obtain ⟨C, hCF, hK, hCn⟩ := row_kids hk
  have D := dfold_begun hpg.noB C (F.map fun x => nums (nm x)) ([], 0, Value.nilIface, false) rfl (by
    apply List.ext_getElem
    · simp; omega
    · intro j h1 h2
      have hj : j < C.length := by simpa using h1
      have := (hCn j hj (by omega)).1
      simpa using this)
  have hlead : lead pg = 0 := by have := smL_lead hpg (t := []); rwa [List.append_nil] at this
  refine doi_any p 0 lv orig kv C pg w _ hp hK hl hlead (fun j hj => ?_) (by omega) (by omega) (fun c hc => ?_) (.inl ⟨?_, fun ov us Q B w' o hB hS hQ => ?_⟩)
  · have := hpg.2 _ (List.getElem_mem hj)
    rw [gi_lt hj]; omega
  · obtain ⟨j, hj, rfl⟩ := List.getElem_of_mem hc
    rw [(hCn j hj (by omega)).1, List.length_append, length_nums]
    have := hs _ (List.getElem_mem (show j < F.length by omega))
    simp; omega
  · by_cases h1 : (dfold pg C).1.length = 1
    · right
      refine ⟨h1, ?_, D.2.1⟩
      have hne : outS (F.map fun x => nums (nm x)) pg ≠ [] := fun e => by
        have e1 : (dfold pg C).1 = [] ++ outS (F.map fun x => nums (nm x)) pg := D.1
        rw [e1, e] at h1
        simp at h1
      have e2 : (dfold pg C).2.1 = if outS (F.map fun x => nums (nm x)) pg = [] then 0 else pg.length := D.2.2
      rw [e2, if_neg hne]
    · left; exact h1
  · refine ⟨us, Q, B, o, hB, hS, ?_, D.2.2⟩
    rw [hQ]
    have e1 : (dfold pg C).1 = [] ++ outS (F.map fun x => nums (nm x)) pg := D.1
    rw [e1, List.nil_append]
end
end Go.Proofs.YtalkikljjffpmaaDoor
