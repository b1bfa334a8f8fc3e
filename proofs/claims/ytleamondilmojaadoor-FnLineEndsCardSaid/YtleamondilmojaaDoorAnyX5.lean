/- A region in whatever order ahead of a tail that waits for all of it by several steps. -/
import Derived.Test.YtleamondilmojaaDoorAnyX
namespace Go.Proofs.YtleamondilmojaaDoor
open Go.RowKit
set_option linter.unusedVariables false

section
variable {P : Program} {ops : Array Oper} {Q : Exit → Act → World → Prop} {md : Region.Mode} {T : World → Prop} {V : Nat → Value → Prop} {W : Nat → Value → World → Prop} {tail : Nat → Bool} {blk : Nat → Value → Option Nat} {m : Nat}

/-- Number j waits for number i, by f steps at most. -/
def reach (md : Region.Mode) (ops : Array Oper) (i : Nat) : Nat → Nat → Bool
  | 0, _ => false
  | f + 1, j => match ops[j]? with
    | some oj => oj.after.any fun e => Region.binds md e && (e.on == i || reach md ops i f e.on)
    | none => false
theorem reach_up {i : Nat} : ∀ (f j : Nat), reach md ops i f j = true → reach md ops i (f + 1) j = true
  | 0, j, h => by cases h
  | f + 1, j, h => by
    unfold reach at h ⊢
    cases hj : ops[j]? with
    | none => rw [hj] at h; cases h
    | some oj =>
      rw [hj] at h
      simp only at h ⊢
      obtain ⟨e, he, hb⟩ := Array.any_eq_true'.1 h
      refine Array.any_eq_true'.2 ⟨e, he, ?_⟩
      simp only [Bool.and_eq_true, Bool.or_eq_true, beq_iff_eq] at hb ⊢
      exact ⟨hb.1, hb.2.imp id (reach_up f _)⟩
theorem reach_spec {i f j : Nat} {oj : Oper} (hj : ops[j]? = some oj) (h : reach md ops i (f + 1) j = true) : ∃ e ∈ oj.after, Region.binds md e = true ∧ (e.on = i ∨ reach md ops i (f + 1) e.on = true) := by
  unfold reach at h
  rw [hj] at h
  simp only at h
  obtain ⟨e, he, hb⟩ := Array.any_eq_true'.1 h
  simp only [Bool.and_eq_true, Bool.or_eq_true, beq_iff_eq] at hb
  exact ⟨e, he, hb.1, hb.2.imp id (reach_up f _)⟩
def tailOk5 (md : Region.Mode) (ops : Array Oper) (tail : Nat → Bool) (i : Nat) : Bool := (List.range ops.size).all fun j => !tail j || reach md ops i 5 j
def heirsOut5 (md : Region.Mode) (ops : Array Oper) (listed : Array Bool) (i : Nat) : Bool := (List.range ops.size).all fun j => !reach md ops i 5 j || !listed.getD j true
theorem tailOk5_spec {i : Nat} (h : tailOk5 md ops tail i = true) (j : Nat) (oj : Oper) (hj : ops[j]? = some oj) (ht : tail j = true) : reach md ops i 5 j = true := by
  simp only [tailOk5, List.all_eq_true, List.mem_range] at h
  have h1 := h j (Array.getElem?_eq_some_iff.1 hj).1
  simpa [ht] using h1
theorem heirsOut5_spec {listed : Array Bool} {i : Nat} (h : heirsOut5 md ops listed i = true) (j : Nat) (oj : Oper) (hj : ops[j]? = some oj) (hb : reach md ops i 5 j = true) : listed.getD j true = false := by
  simp only [heirsOut5, List.all_eq_true, List.mem_range] at h
  have h1 := h j (Array.getElem?_eq_some_iff.1 hj).1
  simpa [hb] using h1
theorem wpX5_first {i : Nat} {oi : Oper} (hi : ops[i]? = some oi) (hsel : ∀ (j : Nat) (o : Oper) cs b, ops[j]? = some o → o.op ≠ .select cs b) (v0 : List Nat → Value) (hv0 : ∀ bl, V i (v0 bl) ∧ ∀ b, blk i (v0 bl) = some b → b ∉ bl)
    (htail : ∀ j oj, ops[j]? = some oj → tail j = true → reach md ops i 5 j = true) :
    ∀ (n : Nat) (listed : Array Bool) (a : Act) (G : World → Prop) (bl : List Nat),
      (∀ j oj, ops[j]? = some oj → j ≠ i → listed.getD j true = false → (∀ e ∈ oj.after, Region.binds md e = true → e.on ≠ i) → oi.apart ops oj = true) →
      (∀ j oj, ops[j]? = some oj → reach md ops i 5 j = true → listed.getD j true = false) → i ∈ Region.ready md ops listed → tail i = false → SettX P ops T V W blk i oi a →
      (∀ v, V i v → (∀ b, blk i v = some b → b ∉ bl) → wpX P md ops Q T V W tail blk m n (listed.setIfInBounds i true) (a.put oi.dst v) (fun w => G w ∧ W i v w) ((blk i v).toList ++ bl)) → wpX P md ops Q T V W tail blk m (n + 1) listed a G bl := by
  have nott : ∀ (listed : Array Bool) (j : Nat), (∀ j oj, ops[j]? = some oj → reach md ops i 5 j = true → listed.getD j true = false) → i ∈ Region.ready md ops listed → j ∈ Region.ready md ops listed → tail j = false := by
    intro listed j hD hr hj
    cases ht : tail j with
    | false => rfl
    | true =>
      obtain ⟨hjun, oj, hoj, hall⟩ := mem_ready.1 hj
      obtain ⟨e, he, hb, hon⟩ := reach_spec hoj (htail j oj hoj ht)
      have h1 := hall e he hb
      have h0 : listed.getD e.on true = false := by
        rcases hon with hon | hbo
        · rw [hon]; exact (mem_ready.1 hr).1
        · cases hok : ops[e.on]? with
          | some ok => exact hD _ ok hok hbo
          | none => unfold reach at hbo; rw [hok] at hbo; cases hbo
      rcases Nat.lt_or_ge e.on listed.size with h' | h'
      · simp [h'] at h0 h1; rw [h0] at h1; cases h1
      · simp [Array.getElem?_eq_none h'] at h1
  intro n
  induction n with
  | zero =>
    intro listed a G bl hfree hD hr hti hs H
    refine ⟨fun h => (by rw [h] at hr; cases hr), fun j hj => ?_⟩
    by_cases hji : j = i
    · subst hji; exact ⟨oi, hi, hs, H⟩
    · exfalso
      have htj := nott listed j hD hr hj
      have := (H (v0 bl) (hv0 bl).1 (hv0 bl).2).1 j (ready_mono hj hji)
      rw [htj] at this; cases this
  | succ n ih =>
    intro listed a G bl hfree hD hr hti hs H
    refine ⟨fun h => (by rw [h] at hr; cases hr), fun j hj => ?_⟩
    by_cases hji : j = i
    · subst hji; exact ⟨oi, hi, hs, H⟩
    · obtain ⟨oj, hoj, hsj, _⟩ := (H (v0 bl) (hv0 bl).1 (hv0 bl).2).2 j (ready_mono hj hji)
      obtain ⟨hjun, oj', hoj', hall⟩ := mem_ready.1 hj
      rw [hoj] at hoj'
      obtain rfl := Option.some.inj hoj'
      have hnot : ∀ e ∈ oj.after, Region.binds md e = true → e.on ≠ i := fun e he hb heq => by
        have h1 := hall e he hb
        have h0 := (mem_ready.1 hr).1
        rw [heq] at h1
        rcases Nat.lt_or_ge i listed.size with h' | h'
        · simp [h'] at h0 h1; rw [h0] at h1; cases h1
        · simp [Array.getElem?_eq_none h'] at h1
      obtain ⟨p1, p2, p3⟩ := Oper.apart_spec (hfree j oj hoj hji hjun hnot)
      have hsi : ∀ cs b, oi.op ≠ .select cs b := fun cs b => hsel i oi cs b hi
      have hsj' : ∀ cs b, oj.op ≠ .select cs b := fun cs b => hsel j oj cs b hoj
      have hfree' : ∀ k ok, ops[k]? = some ok → k ≠ i → (listed.setIfInBounds j true).getD k true = false →
          (∀ e ∈ ok.after, Region.binds md e = true → e.on ≠ i) → oi.apart ops ok = true := fun k ok hk hki hun hno => by
        refine hfree k ok hk hki ?_ hno
        by_cases hjk : j = k
        · subst hjk; exact hjun
        · rw [getD_set_ne true hjk] at hun; exact hun
      have hD' : ∀ k ok, ops[k]? = some ok → reach md ops i 5 k = true → (listed.setIfInBounds j true).getD k true = false := fun k ok hk hb => by
        by_cases hjk : j = k
        · subst hjk
          rw [hoj] at hk
          obtain rfl := Option.some.inj hk
          obtain ⟨e, he, hbe, hon⟩ := reach_spec hoj hb
          rcases hon with hon | hon
          · exact absurd hon (hnot e he hbe)
          · exfalso
            have h1 := hall e he hbe
            have h0 : listed.getD e.on true = false := by
              cases hok : ops[e.on]? with
              | some ok => exact hD _ ok hok hon
              | none => unfold reach at hon; rw [hok] at hon; cases hon
            rcases Nat.lt_or_ge e.on listed.size with h' | h'
            · simp [h'] at h0 h1; rw [h0] at h1; cases h1
            · simp [Array.getElem?_eq_none h'] at h1
        · rw [getD_set_ne true hjk]; exact hD k ok hk hb
      refine ⟨oj, hoj, hsj.of_same (execOp_put oj hsj' a oi.dst (v0 bl) p1).symm (wanted_put oj a oi.dst (v0 bl) p1).symm, fun u hu hfu => ?_⟩
      refine ih (listed.setIfInBounds j true) (a.put oj.dst u) _ _ hfree' hD' (ready_mono hr (Ne.symm hji)) hti (hs.of_same (execOp_put oi hsi a oj.dst u p3) (wanted_put oi a oj.dst u p3)) fun v hv hfv => ?_
      obtain ⟨oj2, hoj2, _, hn⟩ := (H v hv fun b he hm => hfv b he (List.mem_append_right _ hm)).2 j (ready_mono hj hji)
      rw [hoj] at hoj2
      obtain rfl := Option.some.inj hoj2
      have := wpX_mono _ _ _ _ (fun w => (G w ∧ W j u w) ∧ W i v w) _ ((blk i v).toList ++ ((blk j u).toList ++ bl)) (fun w hw => ⟨⟨hw.1.1, hw.2⟩, hw.1.2⟩) (fun b hb => by
        simp only [List.mem_append] at hb ⊢
        rcases hb with h | h | h
        · exact .inr (.inl h)
        · exact .inl h
        · exact .inr (.inr h)) (hn u hu fun b he hm => by
        rcases List.mem_append.1 hm with h | h
        · exact hfv b (by simpa using h) (List.mem_append_left _ (by simp [he]))
        · exact hfu b he h)
      rw [Array.setIfInBounds_comm _ _ hji, Act.put_comm a u v fun d hd he => p2 d he hd]
      exact this
theorem wpX5_take {i : Nat} {oi : Oper} {n : Nat} {listed : Array Bool} {a : Act} {G : World → Prop} {bl : List Nat} (hi : ops[i]? = some oi) (hs : Region.noSelect ops = true) (v0 : List Nat → Value) (hv0 : ∀ bl, V i (v0 bl) ∧ ∀ b, blk i (v0 bl) = some b → b ∉ bl)
    (htail : tailOk5 md ops tail i = true) (hh : heirsOut5 md ops listed i = true) (hf : Region.free md ops listed i = true) (hr : (Region.ready md ops listed).contains i = true) (hti : tail i = false)
    (hy : SettX P ops T V W blk i oi a) (h : ∀ v, V i v → (∀ b, blk i v = some b → b ∉ bl) → wpX P md ops Q T V W tail blk m n (listed.setIfInBounds i true) (a.put oi.dst v) (fun w => G w ∧ W i v w) ((blk i v).toList ++ bl)) : wpX P md ops Q T V W tail blk m (n + 1) listed a G bl :=
  wpX5_first hi (Region.noSelect_spec hs) v0 hv0 (tailOk5_spec htail) n listed a G bl (Region.free_spec hi hf) (heirsOut5_spec hh) (by simpa using hr) hti hy h
end
end Go.Proofs.YtleamondilmojaaDoor
