/- A region in whatever order, each of whose operations gives one value whatever the order is: taken in the order of the text. -/
import Derived.Orders
import Derived.Deep.RegionHeld
import Derived.Laws.Tables
import Derived.Test.YtleamondilmojaaDoorBase
namespace Go.Proofs.YtleamondilmojaaDoor
open Go.RowKit
set_option linter.unusedVariables false

section
variable {P : Program} {ops : Array Oper} {Q : Exit → Act → World → Prop} {md : Region.Mode} {T : Bool → World → Prop} {st : Nat}

/-- The run gives v (or a call that returns v), in a world of which T' holds. -/
def Lands (P : Program) (T' : World → Prop) (v : Value) : Result Next → Prop
  | .ok (.value u) w' => u = v ∧ T' w'
  | .ok .skip w' => undef = v ∧ T' w'
  | .ok (.enter f args) w' => Calls P f args w' fun e w'' => e = .returned v ∧ T' w''
  | _ => False
theorem Lands.value {T' : World → Prop} {v : Value} {w : World} (h : T' w) : Lands P T' v (.ok (.value v) w) := ⟨rfl, h⟩
theorem Lands.skip {T' : World → Prop} {w : World} (h : T' w) : Lands P T' undef (.ok .skip w) := ⟨rfl, h⟩
theorem Lands.enter {T' : World → Prop} {v : Value} {w : World} {f : FuncId} {args : Array Value} (h : Calls P f args w fun e w'' => e = .returned v ∧ T' w'') : Lands P T' v (.ok (.enter f args) w) := h
theorem Lands.call {T' : World → Prop} {v : Value} {w : World} {f : FuncId} {args : Array Value} (h : Calls P f args w fun e w' => e = .returned v ∧ Old w w') (k : ∀ w', Old w w' → T' w') : Lands P T' v (.ok (.enter f args) w) :=
  Lands.enter (h.mono fun e w' hh => ⟨hh.1, k w' hh.2⟩)
theorem Lands.calls {T' : World → Prop} {v : Value} {w : World} {f : FuncId} {args : Array Value} (h : Calls P f args w fun e w' => e = .returned v ∧ w' = w) (k : T' w) : Lands P T' v (.ok (.enter f args) w) :=
  Lands.enter (h.mono fun e w' hh => ⟨hh.1, by rw [hh.2]; exact k⟩)
theorem Lands.store_row {T' : World → Prop} {w : World} {o : Oper} {a : Act} (ty : TypeId) (x y : Operand) (ho : o.op = .store ty x y)
    (g : Nat) (cells : Array Value) (hx : a.eval x = .pointer (some ⟨g, 0, none⟩)) (hy : a.eval y = .agg cells)
    (t : TypeId) (old : Array Value) (hg : w.heap[g]? = some (.cells old t (0, 0))) (hi : (P.info? ty).map (·.size) = some cells.size)
    (hold : old.size = cells.size) (h1 : cells.all (·.oneCell') = true) (h : T' (w.setRow g cells)) : Lands P T' undef ((execOp a.eval o).run P w) := by
  unfold execOp
  simp only [ho, hx, hy, Instr.storeAt, Instr.sureAddr, Sem.run_bind, Sem.run_pure, Result.andThen_ok, run_storeVar_row w g t ty old cells hg hi hold h1]
  exact Lands.skip h
theorem Lands.upon {T' : World → Prop} {v : Value} {r : Result Next} {o : Oper} {a : Act} {K : Act → World → Prop} (h : Lands P T' v r) (hK : ∀ w, T' w → K (a.put o.dst v) w) : o.upon P a K Q r := by
  cases r with
  | ok n w =>
    cases n <;> simp only [Lands] at h
    case value u => obtain ⟨rfl, h⟩ := h; exact hK _ h
    case skip => obtain ⟨rfl, h⟩ := h; exact hK _ h
    case enter f args =>
      refine Calls.mono h fun e w'' he => ?_
      obtain ⟨rfl, h⟩ := he
      exact hK _ h
  | halt x w => simp only [Lands] at h

/-- In state a operation o, number i, gives v, in every world of which T holds; and behind it T holds (behind number st the other T). -/
def Sett (P : Program) (ops : Array Oper) (T : Bool → World → Prop) (st i : Nat) (o : Oper) (v : Value) (a : Act) : Prop :=
  (Region.wanted o (yielded ops a.tmps) = true ∧ ∀ b, (i = st → b = false) → ∀ w, T b w → Lands P (T (i == st || b)) v ((execOp a.eval o).run P w)) ∨
  (Region.wanted o (yielded ops a.tmps) = false ∧ v = undef ∧ i ≠ st)
theorem Sett.of_same {i : Nat} {o : Oper} {v : Value} {a a' : Act} (h : Sett P ops T st i o v a) (he : execOp a'.eval o = execOp a.eval o)
    (hw : Region.wanted o (yielded ops a'.tmps) = Region.wanted o (yielded ops a.tmps)) : Sett P ops T st i o v a' := by
  unfold Sett at *
  rw [he, hw]
  exact h

/-- Whatever comes up gives its value, to the end. -/
def wpT (P : Program) (md : Region.Mode) (ops : Array Oper) (Q : Exit → Act → World → Prop) (T : Bool → World → Prop) (st : Nat) : Nat → Array Bool → Act → Prop
  | 0, listed, a => Region.ready md ops listed = [] ∧ ∀ w, T (listed.getD st false) w → Q .normal a w
  | fuel + 1, listed, a => (Region.ready md ops listed = [] → ∀ w, T (listed.getD st false) w → Q .normal a w) ∧
      ∀ i ∈ Region.ready md ops listed, ∃ oi v, ops[i]? = some oi ∧ Sett P ops T st i oi v a ∧ wpT P md ops Q T st fuel (listed.setIfInBounds i true) (a.put oi.dst v)

theorem listed_at {listed : Array Bool} {i : Nat} (hi : listed.getD i true = false) : (listed.setIfInBounds i true).getD st false = (i == st || listed.getD st false) := by
  by_cases h : i = st
  · subst h
    have hlt : i < listed.size := by
      rcases Nat.lt_or_ge i listed.size with h' | h'
      · exact h'
      · simp [Array.getElem?_eq_none h'] at hi
    simp [hlt]
  · rw [getD_set_ne false h]
    have : (i == st) = false := by simpa using h
    rw [this, Bool.false_or]
theorem wpT_sound : ∀ (fuel : Nat) (listed : Array Bool) (a : Act), wpT P md ops Q T st fuel listed a → ∀ w, T (listed.getD st false) w → wpAny P md ops Q fuel listed a w
  | 0, listed, a, h, w, hT => ⟨h.1, h.2 w hT⟩
  | fuel + 1, listed, a, h, w, hT => by
    refine ⟨fun hr => h.1 hr w hT, fun i hi => ?_⟩
    obtain ⟨oi, v, ho, hs, hn⟩ := h.2 i hi
    have hl := (mem_ready.1 hi).1
    unfold wpOp
    simp only [ho]
    rcases hs with ⟨hw, hv⟩ | ⟨hw, rfl, hne⟩
    · simp only [hw, if_true]
      left
      unfold Oper.wp
      refine Lands.upon (hv (listed.getD st false) (fun e => ?_) w hT) fun w' hT' => wpT_sound fuel _ _ hn w' (by rw [listed_at hl]; exact hT')
      subst e
      rcases Nat.lt_or_ge i listed.size with h' | h'
      · simp [h'] at hl ⊢; exact hl
      · simp [Array.getElem?_eq_none h'] at hl
    · simp only [hw, Bool.false_eq_true, if_false]
      refine wpT_sound fuel _ _ hn w ?_
      rw [listed_at hl]
      have : (i == st) = false := by simpa using hne
      rw [this, Bool.false_or]; exact hT

theorem wpT_first {i : Nat} {oi : Oper} {v : Value} (hi : ops[i]? = some oi) (hsel : ∀ (j : Nat) (o : Oper) cs b, ops[j]? = some o → o.op ≠ .select cs b) :
    ∀ (fuel : Nat) (listed : Array Bool) (a : Act),
      (∀ j oj, ops[j]? = some oj → j ≠ i → listed.getD j true = false → (∀ e ∈ oj.after, Region.binds md e = true → e.on ≠ i) → oi.apart ops oj = true) →
      i ∈ Region.ready md ops listed → Sett P ops T st i oi v a →
      wpT P md ops Q T st fuel (listed.setIfInBounds i true) (a.put oi.dst v) → wpT P md ops Q T st (fuel + 1) listed a := by
  intro fuel
  induction fuel with
  | zero =>
    intro listed a hfree hr hs H
    refine ⟨fun h => (by rw [h] at hr; cases hr), fun j hj => ?_⟩
    by_cases hji : j = i
    · subst hji; exact ⟨oi, v, hi, hs, H⟩
    · have := ready_mono hj hji
      rw [H.1] at this
      cases this
  | succ fuel ih =>
    intro listed a hfree hr hs H
    refine ⟨fun h => (by rw [h] at hr; cases hr), fun j hj => ?_⟩
    by_cases hji : j = i
    · subst hji; exact ⟨oi, v, hi, hs, H⟩
    · obtain ⟨oj, u, hoj, hsj, hn⟩ := H.2 j (ready_mono hj hji)
      obtain ⟨hjun, oj', hoj', hall⟩ := mem_ready.1 hj
      rw [hoj] at hoj'
      obtain rfl := Option.some.inj hoj'
      have hnot : ∀ e ∈ oj.after, Region.binds md e = true → e.on ≠ i := fun e he hb heq => by
        have h1 := hall e he hb
        have h0 := (mem_ready.1 hr).1
        rw [heq] at h1
        rcases Nat.lt_or_ge i listed.size with h' | h'
        · simp [h'] at h0 h1; rw [h0] at h1; cases h1
        · simp [Array.getElem?_eq_none h'] at h1
      obtain ⟨p1, p2, p3⟩ := Oper.apart_spec (hfree j oj hoj hji hjun hnot)
      have hsi : ∀ cs b, oi.op ≠ .select cs b := fun cs b => hsel i oi cs b hi
      have hsj' : ∀ cs b, oj.op ≠ .select cs b := fun cs b => hsel j oj cs b hoj
      have hj1 : Sett P ops T st j oj u a := hsj.of_same (execOp_put oj hsj' a oi.dst v p1).symm (wanted_put oj a oi.dst v p1).symm
      have hi1 : Sett P ops T st i oi v (a.put oj.dst u) := hs.of_same (execOp_put oi hsi a oj.dst u p3) (wanted_put oi a oj.dst u p3)
      have hfree' : ∀ k ok, ops[k]? = some ok → k ≠ i → (listed.setIfInBounds j true).getD k true = false →
          (∀ e ∈ ok.after, Region.binds md e = true → e.on ≠ i) → oi.apart ops ok = true := fun k ok hk hki hun hno => by
        refine hfree k ok hk hki ?_ hno
        by_cases hjk : j = k
        · subst hjk; exact hjun
        · rw [getD_set_ne true hjk] at hun; exact hun
      refine ⟨oj, u, hoj, hj1, ih (listed.setIfInBounds j true) (a.put oj.dst u) hfree' (ready_mono hr (Ne.symm hji)) hi1 ?_⟩
      rw [Array.setIfInBounds_comm _ _ hji, Act.put_comm a u v fun d hd he => p2 d he hd]
      exact hn

theorem wpT_take {i : Nat} {oi : Oper} {v : Value} {fuel : Nat} {listed : Array Bool} {a : Act} (hi : ops[i]? = some oi)
    (hs : Region.noSelect ops = true) (hf : Region.free md ops listed i = true) (hr : (Region.ready md ops listed).contains i = true)
    (hy : Sett P ops T st i oi v a) (h : wpT P md ops Q T st fuel (listed.setIfInBounds i true) (a.put oi.dst v)) : wpT P md ops Q T st (fuel + 1) listed a :=
  wpT_first hi (Region.noSelect_spec hs) fuel listed a (Region.free_spec hi hf) (by simpa using hr) hy h
theorem wpT_done {listed : Array Bool} {a : Act} (hr : Region.ready md ops listed = []) (h : ∀ w, T (listed.getD st false) w → Q .normal a w) : ∀ fuel, wpT P md ops Q T st fuel listed a
  | 0 => ⟨hr, h⟩
  | _ + 1 => ⟨fun _ => h, by rw [hr]; simp⟩
theorem wp_region_T {id : Nat} {a : Act} {w : World} (T : Bool → World → Prop) (st : Nat) (hm : P.follows .mixedOrders = true) (hT : T false w.drew)
    (h : wpT P .any ops Q T st ops.size (Array.replicate ops.size false) a) : (Code.region id ops true).wp P Q a w := by
  refine wp_region_any hm (wpT_sound _ _ _ h _ ?_)
  have : (Array.replicate ops.size false).getD st false = false := by
    rcases Nat.lt_or_ge st ops.size with h | h <;> simp [h]
  rw [this]; exact hT
end
end Go.Proofs.YtleamondilmojaaDoor
