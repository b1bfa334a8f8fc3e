/- A region in whatever order, each of whose operations gives a value of its own kind whatever the order is, ahead of a tail that waits for all of them. -/
import Derived.Test.YtleamondilmojaaDoorAnyT
namespace Go.Proofs.YtleamondilmojaaDoor
open Go.RowKit
set_option linter.unusedVariables false

section
variable {P : Program} {ops : Array Oper} {Q : Exit → Act → World → Prop} {md : Region.Mode} {T : World → Prop} {V : Nat → Value → Prop} {W : Nat → Value → World → Prop} {tail : Nat → Bool} {blk : Nat → Value → Option Nat} {m : Nat}

/-- The run gives some value of R (or a call that returns one). -/
def LandsX (P : Program) (R : Value → World → Prop) : Result Next → Prop
  | .ok (.value u) w' => R u w'
  | .ok .skip w' => R undef w'
  | .ok (.enter f args) w' => Calls P f args w' fun e w'' => ∃ v, e = .returned v ∧ R v w''
  | _ => False
theorem LandsX.value {R : Value → World → Prop} {v : Value} {w : World} (h : R v w) : LandsX P R (.ok (.value v) w) := h
theorem LandsX.enter {R : Value → World → Prop} {w : World} {f : FuncId} {args : Array Value} (h : Calls P f args w fun e w'' => ∃ v, e = .returned v ∧ R v w'') : LandsX P R (.ok (.enter f args) w) := h
theorem LandsX.upon {R : Value → World → Prop} {r : Result Next} {o : Oper} {a : Act} {K : Act → World → Prop} (h : LandsX P R r) (hK : ∀ v w, R v w → K (a.put o.dst v) w) : o.upon P a K Q r := by
  cases r with
  | ok n w =>
    cases n <;> simp only [LandsX] at h
    case value u => exact hK _ _ h
    case skip => exact hK _ _ h
    case enter f args =>
      refine Calls.mono h fun e w'' he => ?_
      obtain ⟨v, rfl, h⟩ := he
      exact hK _ _ h
  | halt x w => simp only [LandsX] at h
theorem LandsX.mono {R R' : Value → World → Prop} {r : Result Next} (h : LandsX P R r) (k : ∀ v w, R v w → R' v w) : LandsX P R' r := by
  cases r with
  | ok n w =>
    cases n <;> simp only [LandsX] at h ⊢
    case value u => exact k _ _ h
    case skip => exact k _ _ h
    case enter f args => exact Calls.mono h fun e w'' he => by obtain ⟨v, hv, h⟩ := he; exact ⟨v, hv, k _ _ h⟩
  | halt x w => simp only [LandsX] at h

/-- In state a operation o, number i, gives a value of V i, of which W i holds, in every world of which T holds; and T holds behind it, and all that was old stays. -/
def SettX (P : Program) (ops : Array Oper) (T : World → Prop) (V : Nat → Value → Prop) (W : Nat → Value → World → Prop) (blk : Nat → Value → Option Nat) (i : Nat) (o : Oper) (a : Act) : Prop :=
  Region.wanted o (yielded ops a.tmps) = true ∧ ∀ w, T w → LandsX P (fun v w' => T w' ∧ V i v ∧ W i v w' ∧ Old w w' ∧ ∀ b, blk i v = some b → w.heap.size ≤ b ∧ b < w'.heap.size) ((execOp a.eval o).run P w)
theorem SettX.of_same {i : Nat} {o : Oper} {a a' : Act} (h : SettX P ops T V W blk i o a) (he : execOp a'.eval o = execOp a.eval o)
    (hw : Region.wanted o (yielded ops a'.tmps) = Region.wanted o (yielded ops a.tmps)) : SettX P ops T V W blk i o a' := by
  unfold SettX at *
  rw [he, hw]
  exact h

/-- Whatever comes up gives a value of its kind; n operations on the tail comes up. -/
def wpX (P : Program) (md : Region.Mode) (ops : Array Oper) (Q : Exit → Act → World → Prop) (T : World → Prop) (V : Nat → Value → Prop) (W : Nat → Value → World → Prop) (tail : Nat → Bool) (blk : Nat → Value → Option Nat) (m : Nat) : Nat → Array Bool → Act → (World → Prop) → List Nat → Prop
  | 0, listed, a, G, _ => (∀ j ∈ Region.ready md ops listed, tail j = true) ∧ ∀ w, T w → G w → wpAny P md ops Q m listed a w
  | n + 1, listed, a, G, bl => Region.ready md ops listed ≠ [] ∧ ∀ i ∈ Region.ready md ops listed, ∃ oi, ops[i]? = some oi ∧ SettX P ops T V W blk i oi a ∧
      ∀ v, V i v → (∀ b, blk i v = some b → b ∉ bl) → wpX P md ops Q T V W tail blk m n (listed.setIfInBounds i true) (a.put oi.dst v) (fun w => G w ∧ W i v w) ((blk i v).toList ++ bl)

theorem wpX_mono : ∀ (n : Nat) (listed : Array Bool) (a : Act) (G G' : World → Prop) (bl bl' : List Nat), (∀ w, G' w → G w) → (∀ b, b ∈ bl → b ∈ bl') → wpX P md ops Q T V W tail blk m n listed a G bl → wpX P md ops Q T V W tail blk m n listed a G' bl'
  | 0, listed, a, G, G', bl, bl', h, hb, H => ⟨H.1, fun w hT hG => H.2 w hT (h w hG)⟩
  | n + 1, listed, a, G, G', bl, bl', h, hb, H => ⟨H.1, fun i hi => by
    obtain ⟨oi, ho, hs, hn⟩ := H.2 i hi
    refine ⟨oi, ho, hs, fun v hv hf => wpX_mono n _ _ _ _ _ _ (fun w hw => ⟨h w hw.1, hw.2⟩) (fun b hb' => ?_) (hn v hv fun b he hm => hf b he (hb b hm))⟩
    rcases List.mem_append.1 hb' with h1 | h1
    · exact List.mem_append_left _ h1
    · exact List.mem_append_right _ (hb b h1)⟩
theorem wpX_sound (hW : ∀ i v w w', W i v w → Old w w' → W i v w') : ∀ (n : Nat) (listed : Array Bool) (a : Act) (G : World → Prop) (bl : List Nat), (∀ w w', G w → Old w w' → G w') → wpX P md ops Q T V W tail blk m n listed a G bl →
    ∀ w, T w → G w → (∀ b ∈ bl, b < w.heap.size) → wpAny P md ops Q (n + m) listed a w
  | 0, listed, a, G, bl, hG, h, w, hT, hw, hb => by rw [Nat.zero_add]; exact h.2 w hT hw
  | n + 1, listed, a, G, bl, hG, h, w, hT, hw, hb => by
    rw [Nat.add_right_comm]
    refine ⟨fun hr => absurd hr h.1, fun i hi => ?_⟩
    obtain ⟨oi, ho, hs, hn⟩ := h.2 i hi
    unfold wpOp
    simp only [ho, hs.1, if_true]
    left
    unfold Oper.wp
    refine LandsX.upon (hs.2 w hT) fun v w' hv => ?_
    obtain ⟨v1, v2, v3, v4, v5⟩ := hv
    refine wpX_sound hW n _ _ _ _ (fun u u' hu o => ⟨hG _ _ hu.1 o, hW _ _ _ _ hu.2 o⟩) (hn v v2 fun b he hm => ?_) w' v1 ⟨hG _ _ hw v4, v3⟩ fun b hm => ?_
    · have h1 := hb b hm
      have h2 := (v5 b he).1
      omega
    · rcases List.mem_append.1 hm with h1 | h1
      · exact (v5 b (by simpa using h1)).2
      · exact Nat.lt_of_lt_of_le (hb b h1) v4.size

/-- o waits for number i. -/
def bindsOn (md : Region.Mode) (o : Oper) (i : Nat) : Bool := o.after.any fun e => Region.binds md e && e.on == i
theorem bindsOn_spec {o : Oper} {i : Nat} (h : bindsOn md o i = true) : ∃ e ∈ o.after, Region.binds md e = true ∧ e.on = i := by
  obtain ⟨e, he, hb⟩ := Array.any_eq_true'.1 h
  simp only [Bool.and_eq_true, beq_iff_eq] at hb
  exact ⟨e, he, hb.1, hb.2⟩
/-- Each operation of the tail waits for number i, or for one that waits for it. -/
def tailOk (md : Region.Mode) (ops : Array Oper) (tail : Nat → Bool) (i : Nat) : Bool := (List.range ops.size).all fun j => !tail j || match ops[j]? with
  | some oj => oj.after.any (fun e => Region.binds md e && (e.on == i || match ops[e.on]? with | some ok => bindsOn md ok i | none => false))
  | none => true
theorem tailOk_spec {i : Nat} (h : tailOk md ops tail i = true) (j : Nat) (oj : Oper) (hj : ops[j]? = some oj) (ht : tail j = true) :
    ∃ e ∈ oj.after, Region.binds md e = true ∧ (e.on = i ∨ ∃ ok, ops[e.on]? = some ok ∧ bindsOn md ok i = true) := by
  simp only [tailOk, List.all_eq_true, List.mem_range] at h
  have h1 := h j (Array.getElem?_eq_some_iff.1 hj).1
  simp only [hj, ht, Bool.not_true, Bool.false_or] at h1
  obtain ⟨e, he, hb⟩ := Array.any_eq_true'.1 h1
  simp only [Bool.and_eq_true, Bool.or_eq_true, beq_iff_eq] at hb
  refine ⟨e, he, hb.1, ?_⟩
  rcases hb.2 with h2 | h2
  · exact .inl h2
  · right
    cases hk : ops[e.on]? with
    | none => rw [hk] at h2; cases h2
    | some ok => rw [hk] at h2; exact ⟨ok, rfl, h2⟩
/-- None that waits for number i has come up. -/
def heirsOut (md : Region.Mode) (ops : Array Oper) (listed : Array Bool) (i : Nat) : Bool := (List.range ops.size).all fun j => match ops[j]? with
  | some oj => !bindsOn md oj i || !listed.getD j true
  | none => true
theorem heirsOut_spec {listed : Array Bool} {i : Nat} (h : heirsOut md ops listed i = true) (j : Nat) (oj : Oper) (hj : ops[j]? = some oj) (hb : bindsOn md oj i = true) : listed.getD j true = false := by
  simp only [heirsOut, List.all_eq_true, List.mem_range] at h
  have h1 := h j (Array.getElem?_eq_some_iff.1 hj).1
  simp only [hj, hb, Bool.not_true, Bool.false_or, Bool.not_eq_true'] at h1
  exact h1

theorem wpX_first {i : Nat} {oi : Oper} (hi : ops[i]? = some oi) (hsel : ∀ (j : Nat) (o : Oper) cs b, ops[j]? = some o → o.op ≠ .select cs b) (v0 : List Nat → Value) (hv0 : ∀ bl, V i (v0 bl) ∧ ∀ b, blk i (v0 bl) = some b → b ∉ bl)
    (htail : ∀ j oj, ops[j]? = some oj → tail j = true → ∃ e ∈ oj.after, Region.binds md e = true ∧ (e.on = i ∨ ∃ ok, ops[e.on]? = some ok ∧ bindsOn md ok i = true)) :
    ∀ (n : Nat) (listed : Array Bool) (a : Act) (G : World → Prop) (bl : List Nat),
      (∀ j oj, ops[j]? = some oj → j ≠ i → listed.getD j true = false → (∀ e ∈ oj.after, Region.binds md e = true → e.on ≠ i) → oi.apart ops oj = true) →
      (∀ j oj, ops[j]? = some oj → bindsOn md oj i = true → listed.getD j true = false) → i ∈ Region.ready md ops listed → tail i = false → SettX P ops T V W blk i oi a →
      (∀ v, V i v → (∀ b, blk i v = some b → b ∉ bl) → wpX P md ops Q T V W tail blk m n (listed.setIfInBounds i true) (a.put oi.dst v) (fun w => G w ∧ W i v w) ((blk i v).toList ++ bl)) → wpX P md ops Q T V W tail blk m (n + 1) listed a G bl := by
  have nott : ∀ (listed : Array Bool) (j : Nat), (∀ j oj, ops[j]? = some oj → bindsOn md oj i = true → listed.getD j true = false) → i ∈ Region.ready md ops listed → j ∈ Region.ready md ops listed → tail j = false := by
    intro listed j hD hr hj
    cases ht : tail j with
    | false => rfl
    | true =>
      obtain ⟨hjun, oj, hoj, hall⟩ := mem_ready.1 hj
      obtain ⟨e, he, hb, hon⟩ := htail j oj hoj ht
      have h1 := hall e he hb
      have h0 : listed.getD e.on true = false := by
        rcases hon with hon | ⟨ok, hok, hbo⟩
        · rw [hon]; exact (mem_ready.1 hr).1
        · exact hD _ ok hok hbo
      rcases Nat.lt_or_ge e.on listed.size with h' | h'
      · simp [h'] at h0 h1; rw [h0] at h1; cases h1
      · simp [Array.getElem?_eq_none h'] at h1
  intro n
  induction n with
  | zero =>
    intro listed a G bl hfree hD hr hti hs H
    refine ⟨fun h => (by rw [h] at hr; cases hr), fun j hj => ?_⟩
    by_cases hji : j = i
    · subst hji; exact ⟨oi, hi, hs, H⟩
    · exfalso
      have htj := nott listed j hD hr hj
      have := (H (v0 bl) (hv0 bl).1 (hv0 bl).2).1 j (ready_mono hj hji)
      rw [htj] at this; cases this
  | succ n ih =>
    intro listed a G bl hfree hD hr hti hs H
    refine ⟨fun h => (by rw [h] at hr; cases hr), fun j hj => ?_⟩
    by_cases hji : j = i
    · subst hji; exact ⟨oi, hi, hs, H⟩
    · obtain ⟨oj, hoj, hsj, _⟩ := (H (v0 bl) (hv0 bl).1 (hv0 bl).2).2 j (ready_mono hj hji)
      obtain ⟨hjun, oj', hoj', hall⟩ := mem_ready.1 hj
      rw [hoj] at hoj'
      obtain rfl := Option.some.inj hoj'
      have hnot : ∀ e ∈ oj.after, Region.binds md e = true → e.on ≠ i := fun e he hb heq => by
        have h1 := hall e he hb
        have h0 := (mem_ready.1 hr).1
        rw [heq] at h1
        rcases Nat.lt_or_ge i listed.size with h' | h'
        · simp [h'] at h0 h1; rw [h0] at h1; cases h1
        · simp [Array.getElem?_eq_none h'] at h1
      obtain ⟨p1, p2, p3⟩ := Oper.apart_spec (hfree j oj hoj hji hjun hnot)
      have hsi : ∀ cs b, oi.op ≠ .select cs b := fun cs b => hsel i oi cs b hi
      have hsj' : ∀ cs b, oj.op ≠ .select cs b := fun cs b => hsel j oj cs b hoj
      have hfree' : ∀ k ok, ops[k]? = some ok → k ≠ i → (listed.setIfInBounds j true).getD k true = false →
          (∀ e ∈ ok.after, Region.binds md e = true → e.on ≠ i) → oi.apart ops ok = true := fun k ok hk hki hun hno => by
        refine hfree k ok hk hki ?_ hno
        by_cases hjk : j = k
        · subst hjk; exact hjun
        · rw [getD_set_ne true hjk] at hun; exact hun
      have hD' : ∀ k ok, ops[k]? = some ok → bindsOn md ok i = true → (listed.setIfInBounds j true).getD k true = false := fun k ok hk hb => by
        by_cases hjk : j = k
        · subst hjk
          rw [hoj] at hk
          obtain rfl := Option.some.inj hk
          obtain ⟨e, he, hbe, hon⟩ := bindsOn_spec hb
          exact absurd hon (hnot e he hbe)
        · rw [getD_set_ne true hjk]; exact hD k ok hk hb
      refine ⟨oj, hoj, hsj.of_same (execOp_put oj hsj' a oi.dst (v0 bl) p1).symm (wanted_put oj a oi.dst (v0 bl) p1).symm, fun u hu hfu => ?_⟩
      refine ih (listed.setIfInBounds j true) (a.put oj.dst u) _ _ hfree' hD' (ready_mono hr (Ne.symm hji)) hti (hs.of_same (execOp_put oi hsi a oj.dst u p3) (wanted_put oi a oj.dst u p3)) fun v hv hfv => ?_
      obtain ⟨oj2, hoj2, _, hn⟩ := (H v hv fun b he hm => hfv b he (List.mem_append_right _ hm)).2 j (ready_mono hj hji)
      rw [hoj] at hoj2
      obtain rfl := Option.some.inj hoj2
      have := wpX_mono _ _ _ _ (fun w => (G w ∧ W j u w) ∧ W i v w) _ ((blk i v).toList ++ ((blk j u).toList ++ bl)) (fun w hw => ⟨⟨hw.1.1, hw.2⟩, hw.1.2⟩) (fun b hb => by
        simp only [List.mem_append] at hb ⊢
        rcases hb with h | h | h
        · exact .inr (.inl h)
        · exact .inl h
        · exact .inr (.inr h)) (hn u hu fun b he hm => by
        rcases List.mem_append.1 hm with h | h
        · exact hfv b (by simpa using h) (List.mem_append_left _ (by simp [he]))
        · exact hfu b he h)
      rw [Array.setIfInBounds_comm _ _ hji, Act.put_comm a u v fun d hd he => p2 d he hd]
      exact this
theorem wpX_take {i : Nat} {oi : Oper} {n : Nat} {listed : Array Bool} {a : Act} {G : World → Prop} {bl : List Nat} (hi : ops[i]? = some oi) (hs : Region.noSelect ops = true) (v0 : List Nat → Value) (hv0 : ∀ bl, V i (v0 bl) ∧ ∀ b, blk i (v0 bl) = some b → b ∉ bl)
    (htail : tailOk md ops tail i = true) (hh : heirsOut md ops listed i = true) (hf : Region.free md ops listed i = true) (hr : (Region.ready md ops listed).contains i = true) (hti : tail i = false)
    (hy : SettX P ops T V W blk i oi a) (h : ∀ v, V i v → (∀ b, blk i v = some b → b ∉ bl) → wpX P md ops Q T V W tail blk m n (listed.setIfInBounds i true) (a.put oi.dst v) (fun w => G w ∧ W i v w) ((blk i v).toList ++ bl)) : wpX P md ops Q T V W tail blk m (n + 1) listed a G bl :=
  wpX_first hi (Region.noSelect_spec hs) v0 hv0 (tailOk_spec htail) n listed a G bl (Region.free_spec hi hf) (heirsOut_spec hh) (by simpa using hr) hti hy h
theorem wpX_tail {listed : Array Bool} {a : Act} {G : World → Prop} {bl : List Nat} (ht : (Region.ready md ops listed).all tail = true) (h : ∀ w, T w → G w → wpAny P md ops Q m listed a w) : wpX P md ops Q T V W tail blk m 0 listed a G bl :=
  ⟨fun j hj => List.all_eq_true.1 ht j hj, h⟩
theorem wp_region_X {id : Nat} {a : Act} {w : World} (T : World → Prop) (V : Nat → Value → Prop) (W : Nat → Value → World → Prop) (tail : Nat → Bool) (blk : Nat → Value → Option Nat) (n m : Nat) (hW : ∀ i v w w', W i v w → Old w w' → W i v w') (hm : P.follows .mixedOrders = true) (hT : T w.drew) (hn : ops.size = n + m)
    (h : wpX P .any ops Q T V W tail blk m n (Array.replicate ops.size false) a (fun _ => True) []) : (Code.region id ops true).wp P Q a w := by
  refine wp_region_any hm ?_
  have := wpX_sound hW n _ a _ _ (fun _ _ _ _ => trivial) h w.drew hT trivial (fun b hb => by cases hb)
  rw [hn] at this ⊢
  exact this
theorem fresh_max (bl : List Nat) : (bl.foldr max 0 + 1) ∉ bl := by
  intro h
  have : ∀ (l : List Nat) (x : Nat), x ∈ l → x ≤ l.foldr max 0 := by
    intro l
    induction l with
    | nil => intro x hx; cases hx
    | cons y l ih =>
      intro x hx
      simp only [List.foldr_cons]
      rcases List.mem_cons.1 hx with rfl | hx
      · omega
      · have := ih x hx; omega
  have := this bl _ h
  omega
end
end Go.Proofs.YtleamondilmojaaDoor
