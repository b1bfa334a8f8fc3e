/- A region in whatever order: what its store number st overwrites may be loaded first, if st waits for the load. -/
import Derived.Deep.RegionHeld
import Derived.StillTail
import Derived.Test.YtlfmmmbafkelhaaDoorBase
namespace Go.Proofs.YtlfmmmbafkelhaaDoor
open Go.RowKit
set_option linter.unusedVariables false

section
variable {P : Program} {ops : Array Oper} {Q : Exit → Act → World → Prop} {md : Region.Mode} {T : World → Prop} {st : Nat}

/-- Whatever order is picked from here on, and T holds behind each operation ahead of number st. -/
def wpAnyG (P : Program) (md : Region.Mode) (ops : Array Oper) (Q : Exit → Act → World → Prop) (T : World → Prop) (st : Nat) : Nat → Array Bool → Act → World → Prop
  | 0, listed, a, w => Region.ready md ops listed = [] ∧ Q .normal a w
  | fuel + 1, listed, a, w =>
    (Region.ready md ops listed = [] → Q .normal a w) ∧
    ∀ i ∈ Region.ready md ops listed, wpOp P ops Q i (fun a' w' => (i ≠ st → listed.getD st true = false → T w') ∧ wpAnyG P md ops Q T st fuel (listed.setIfInBounds i true) a' w') a w

theorem wpAny_of_G : ∀ (fuel : Nat) (listed : Array Bool) (a : Act) (w : World), wpAnyG P md ops Q T st fuel listed a w → wpAny P md ops Q fuel listed a w
  | 0, _, _, _, h => h
  | fuel + 1, _, _, _, h => ⟨h.1, fun i hi => wpOp_mono (fun a' w' h' => wpAny_of_G fuel _ a' w' h'.2) (h.2 i hi)⟩

theorem wpAnyG_first {i : Nat} {oi : Oper} {v : Value} (hi : ops[i]? = some oi) (hsel : ∀ (j : Nat) (o : Oper) cs b, ops[j]? = some o → o.op ≠ .select cs b)
    (hQ : ∀ c a w, Q (.panic c) (a.put oi.dst v) w → Q (.panic c) a w) (hw : Region.waitsFor md ops st i = true) :
    ∀ (fuel : Nat) (listed : Array Bool) (a : Act) (w : World),
      (∀ j oj, ops[j]? = some oj → j ≠ i → listed.getD j true = false → (∀ e ∈ oj.after, Region.binds md e = true → e.on ≠ i) → oi.apart ops oj = true) →
      i ∈ Region.ready md ops listed → listed.getD st true = false → YieldsIf P ops T oi v a → T w →
      wpAnyG P md ops Q T st fuel (listed.setIfInBounds i true) (a.put oi.dst v) w → wpAnyG P md ops Q T st (fuel + 1) listed a w := by
  intro fuel
  have hst : ∀ (listed : Array Bool) (j : Nat), i ∈ Region.ready md ops listed → j ∈ Region.ready md ops listed → j ≠ st := by
    intro listed j hr hj e
    subst e
    obtain ⟨oj, hoj, e, he, hb, hon⟩ := Region.waitsFor_spec hw
    obtain ⟨hjun, oj', hoj', hall⟩ := mem_ready.1 hj
    rw [hoj] at hoj'
    obtain rfl := Option.some.inj hoj'
    have h1 := hall e he hb
    have h0 := (mem_ready.1 hr).1
    rw [hon] at h1
    rcases Nat.lt_or_ge i listed.size with h' | h'
    · simp [h'] at h0 h1; rw [h0] at h1; cases h1
    · simp [Array.getElem?_eq_none h'] at h1
  induction fuel with
  | zero =>
    intro listed a w _ hr hu hy hS H
    refine ⟨fun h => (by rw [h] at hr; cases hr), fun j hj => ?_⟩
    by_cases hji : j = i
    · subst hji; exact hy.wpOp hi hS ⟨fun _ _ => hS, H⟩
    · have := ready_mono hj hji
      rw [H.1] at this
      cases this
  | succ fuel ih =>
    intro listed a w hfree hr hu hy hS H
    refine ⟨fun h => (by rw [h] at hr; cases hr), fun j hj => ?_⟩
    by_cases hji : j = i
    · subst hji; exact hy.wpOp hi hS ⟨fun _ _ => hS, H⟩
    · have h1 := H.2 j (ready_mono hj hji)
      have hjst := hst listed j hr hj
      have hne := hst listed i hr hr
      obtain ⟨hjun, oj, hoj, hall⟩ := mem_ready.1 hj
      have hnot : ∀ e ∈ oj.after, Region.binds md e = true → e.on ≠ i := fun e he hb heq => by
        have h1 := hall e he hb
        have h0 := (mem_ready.1 hr).1
        rw [heq] at h1
        rcases Nat.lt_or_ge i listed.size with h' | h'
        · simp [h'] at h0 h1; rw [h0] at h1; cases h1
        · simp [Array.getElem?_eq_none h'] at h1
      have h2 := wpOp_putIf hoj (hfree j oj hoj hji hjun hnot) (fun cs b => hsel i oi cs b hi) (fun cs b => hsel j oj cs b hoj) hQ hy h1
      have hfree' : ∀ k ok, ops[k]? = some ok → k ≠ i → (listed.setIfInBounds j true).getD k true = false →
          (∀ e ∈ ok.after, Region.binds md e = true → e.on ≠ i) → oi.apart ops ok = true := fun k ok hk hki hun hno => by
        refine hfree k ok hk hki ?_ hno
        by_cases hjk : j = k
        · subst hjk; exact hjun
        · rw [getD_set_ne true hjk] at hun; exact hun
      have hu1 : (listed.setIfInBounds i true).getD st true = false := by rw [getD_set_ne true hne]; exact hu
      have hu2 : (listed.setIfInBounds j true).getD st true = false := by rw [getD_set_ne true hjst]; exact hu
      refine wpOp_mono (fun a' w' h3 => ⟨fun _ _ => h3.2.1 hjst hu1, ih (listed.setIfInBounds j true) a' w' hfree' (ready_mono hr (Ne.symm hji)) hu2 h3.1 (h3.2.1 hjst hu1) ?_⟩) h2
      rw [Array.setIfInBounds_comm _ _ hji]
      exact h3.2.2

theorem wpAnyG_take {i : Nat} {oi : Oper} {v : Value} {fuel : Nat} {listed : Array Bool} {a : Act} {w : World} (hi : ops[i]? = some oi)
    (hs : Region.noSelect ops = true) (hf : Region.free md ops listed i = true) (hr : (Region.ready md ops listed).contains i = true)
    (hw : Region.waitsFor md ops st i = true) (hu : listed.getD st true = false)
    (hQ : ∀ c a w, Q (.panic c) (a.put oi.dst v) w → Q (.panic c) a w) (hy : YieldsIf P ops T oi v a) (hS : T w)
    (h : wpAnyG P md ops Q T st fuel (listed.setIfInBounds i true) (a.put oi.dst v) w) : wpAnyG P md ops Q T st (fuel + 1) listed a w :=
  wpAnyG_first hi (Region.noSelect_spec hs) hQ hw fuel listed a w (Region.free_spec hi hf) (by simpa using hr) hu hy hS h

/-- One operation alone may come up: it is carried out; behind it T is shown. -/
theorem wpAnyG_one {i : Nat} {o : Oper} {fuel : Nat} {listed : Array Bool} {a : Act} {w : World} (hr : Region.ready md ops listed = [i]) (ho : ops[i]? = some o)
    (h : ∀ K' : Act → World → Prop, Shut (∀ a w, T w → (T w → wpAnyG P md ops Q T st fuel (listed.setIfInBounds i true) a w) → K' a w) → if Region.wanted o (yielded ops a.tmps) = true then Oper.wp P o a w K' Q else K' (a.put o.dst undef) w) :
    wpAnyG P md ops Q T st (fuel + 1) listed a w :=
  by
  refine ⟨fun h0 => ?_, ?_⟩
  · rw [hr] at h0; cases h0
  · rw [hr]
    intro j hj
    have e := List.mem_singleton.1 hj
    subst e
    exact wpOp_step ho (fun K' hK => h K' (fun a w hS hW => hK a w ⟨fun _ _ => hS, hW hS⟩))
/-- Number st itself, or one behind it: T need not be shown. -/
theorem wpAnyG_last {i : Nat} {o : Oper} {fuel : Nat} {listed : Array Bool} {a : Act} {w : World} (hr : Region.ready md ops listed = [i]) (ho : ops[i]? = some o) (hl : (i == st || listed.getD st true) = true)
    (h : ∀ K' : Act → World → Prop, Shut (∀ a w, wpAnyG P md ops Q T st fuel (listed.setIfInBounds i true) a w → K' a w) → if Region.wanted o (yielded ops a.tmps) = true then Oper.wp P o a w K' Q else K' (a.put o.dst undef) w) :
    wpAnyG P md ops Q T st (fuel + 1) listed a w :=
  by
  refine ⟨fun h0 => ?_, ?_⟩
  · rw [hr] at h0; cases h0
  · rw [hr]
    intro j hj
    have e := List.mem_singleton.1 hj
    subst e
    exact wpOp_step ho (fun K' hK => h K' (fun a w hW => hK a w ⟨fun h1 h2 => by
      rw [Bool.or_eq_true, beq_iff_eq] at hl
      rcases hl with hl | hl
      · exact absurd hl h1
      · exact absurd (hl.symm.trans h2) (by decide), hW⟩))
theorem wpAnyG_done {listed : Array Bool} {a : Act} {w : World} (hr : Region.ready md ops listed = []) (h : Q .normal a w) : ∀ fuel, wpAnyG P md ops Q T st fuel listed a w
  | 0 => ⟨hr, h⟩
  | _ + 1 => ⟨fun _ => h, by rw [hr]; simp⟩
theorem wp_region_G {id : Nat} {a : Act} {w : World} (T : World → Prop) (st : Nat) (hm : P.follows .mixedOrders = true) (hT : T w.drew)
    (h : T w.drew → wpAnyG P .any ops Q T st ops.size (Array.replicate ops.size false) a w.drew) : (Code.region id ops true).wp P Q a w :=
  wp_region_any hm (wpAny_of_G _ _ _ _ (h hT))
end
end Go.Proofs.YtlfmmmbafkelhaaDoor
