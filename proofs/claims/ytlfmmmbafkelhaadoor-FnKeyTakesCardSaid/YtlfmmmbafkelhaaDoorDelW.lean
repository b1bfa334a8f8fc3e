/- readline's RuneBuffer: Delete, and the step that does it. -/
import Derived.Test.YtlfmmmbafkelhaaDoorDel
import Derived.Test.YtlfmmmbafkelhaaDoorLoop
namespace Go.Proofs.YtlfmmmbafkelhaaDoor
open Go.RowKit
set_option linter.unusedVariables false
set_option linter.unusedSimpArgs false
set_option maxRecDepth 100000

/-- What a boolean tells. -/
def tellB (x : Bool) : Int := if x then 1 else 0
theorem told_any (x : Bool) (w : World) : Calls Tryd.prog 74 #[.bool x] w fun e w' => e = .returned (.int .i64 (tellB x)) ∧ w' = w := by
  cases x
  all_goals
    go_enter Tryd.func74, Tryd.ntmps74
    go_wp2_with fail
    go_ret
    exact ⟨rfl, rfl⟩

/-- A flag of the caller's is set behind a step. -/
theorem Step.flag {w W2 w2 : World} {p b f : Nat} {st : St} (hS : Step p b st W2 w2) (o : Old w W2) (hf : W2.heap[f]? = some (.cells #[.bool false] 4)) (hfw : w.heap.size ≤ f) (hp : f ≠ p) (hb : f ≠ b) (x : Bool) :
    Step p b st w (w2.setCell ⟨f, 0, none⟩ (.bool x)) ∧ (w2.setCell ⟨f, 0, none⟩ (.bool x)).cell? ⟨f, 0, none⟩ = some (.bool x) := by
  obtain ⟨b', hr, hm, hb'⟩ := hS
  have hf2 := (hm.block f (Array.getElem?_eq_some_iff.1 hf).1 hp hb).trans hf
  have hsz : (w2.setCell ⟨f, 0, none⟩ (.bool x)).heap.size = w2.heap.size := by simp [World.setCell]
  refine ⟨⟨b', hr.keep (k := f) (fun i _ hi => Below.heap_setCell w2 ⟨f, 0, none⟩ _ i hi) (by rw [hsz]; exact Nat.le_refl _) (Ne.symm hp) (hr.ne_of_type hf2 (by decide)) (fun q => by rw [heap1_cell hf2]; simp), ((Mod.of_old o).trans hm (Or.inl rfl)).stored f 0 _ (Or.inr (Or.inr hfw)), hb'.imp id (fun h => Nat.le_trans o.size h)⟩, ?_⟩
  exact World.cell?_setCell_same' _ _ _ (by rw [heap1_cell hf2]; rfl)

theorem del1_end (v sv p b : Nat) (st : St) (w : World) (h : RB w p b st) (hv : Var w v p b) (hat : st.at_ = st.l.length) :
    Calls Tryd.prog 102 #[.pointer (some ⟨v, 0, none⟩), .pointer (some ⟨sv, 0, none⟩)] w fun e w' => e = .returned (.tuple #[]) ∧ Old w w' := by
  obtain ⟨c, kv, hp, hown, _, hl, hkl, hne, hk, ht⟩ := h
  have hv0 := hv.cell
  have c0 := hp.c0
  have c1 := hp.c1
  have d1 : ((st.at_ : Int) == (st.l.length : Int)) = true := by simp [hat]
  clear hp hown hk ht hat
  go_enter Tryd.func102, Tryd.ntmps102
  go_wp2_with fail
  go_quiet (fail)
  go_wp2_with fail
  refine bodyPost_ret (results_none rfl _ _ _) rfl ?_
  exact ⟨rfl, Old.drewN w _⟩

/-- The state behind Delete. -/
def delSt (st : St) : St := if st.at_ < st.l.length then { l := cutAt st.l st.at_ (st.at_ + 1), at_ := st.at_, kl := (st.l.drop st.at_).take 1, t := st.t } else st
def delB (st : St) : Bool := decide (st.at_ < st.l.length)

theorem del_any (p b : Nat) (st : St) (w : World) (h : RB w p b st) :
    Calls Tryd.prog 75 #[.pointer (some ⟨p, 0, none⟩)] w fun e w' => e = .returned (.bool (delB st)) ∧ Step p b (delSt st) w w' := by
  have H := Lib.hid h
  have hmf : ∀ (fn : Fn) (first cap : Array Value) (w : World), (Instr.makeFunc fn first cap).run Tryd.prog w = .ok (.func fn first cap) w := fun _ _ _ _ => rfl
  have hlt := h.lt
  have hle : st.at_ ≤ st.l.length := by obtain ⟨_, _, _, _, hat, _⟩ := h; exact hat
  clear h
  have O2 : Old w ((w.alloc (.cells #[.pointer (some ⟨p, 0, none⟩)] 63)).alloc (.cells #[.bool false] 4)) := (Old.alloc w _).trans (Old.alloc _ _)
  have hF : ((w.alloc (.cells #[.pointer (some ⟨p, 0, none⟩)] 63)).alloc (.cells #[.bool false] 4)).heap[w.heap.size + 1]? = some (.cells #[.bool false] 4) := by
    have := heap_alloc_new (w.alloc (.cells #[.pointer (some ⟨p, 0, none⟩)] 63)) (.cells #[.bool false] 4)
    rwa [show (w.alloc (.cells #[.pointer (some ⟨p, 0, none⟩)] 63)).heap.size = w.heap.size + 1 by simp] at this
  have HF := Lib.hid hF
  have O2H := Lib.hid O2
  clear O2 hF
  by_cases hat : st.at_ < st.l.length
  · have e1 : delSt st = { l := cutAt st.l st.at_ (st.at_ + 1), at_ := st.at_, kl := (st.l.drop st.at_).take 1, t := st.t } := if_pos hat
    have e2 : delB st = true := by simp [delB, hat]
    have E1 := Lib.hid e1
    have E2 := Lib.hid e2
    clear e1 e2
    have C := Lib.hid (del1_at w.heap.size (w.heap.size + 1) p b st _ (H.out.old O2H.out) (H.out.var.old (Old.alloc _ _)) ⟨⟨_, heap1_cell HF.out⟩, free_of_heap HF.out 0, by omega, by omega⟩ hat)
    go_enter Tryd.func75, Tryd.ntmps75
    go_wp2_with (go_at_call 84; refine (refresh_any 102 _ _ _ (fun w' => Step p b (delSt st) w w' ∧ w'.cell? ⟨w.heap.size + 1, 0, none⟩ = some (.bool true)) (fun _ => by kernel_rfl) (C.out.mono fun e w' h => ⟨h.1, by
      obtain ⟨w2, hs, rfl⟩ := h.2
      rw [E1.out]
      exact hs.flag O2H.out HF.out (by omega) (by omega) (by omega) true⟩)).mono ?_; rintro e w1 ⟨rfl, h1, hc⟩; have H1 := Lib.hid h1; clear h1 C)
    refine bodyPost_ret (v := .bool true) ?_ rfl ?_
    · simp [results, Tryd.results75, go_sem, hc]
    · exact ⟨by rw [E2.out], H1.out⟩
  · have hat' : st.at_ = st.l.length := by omega
    have e1 : delSt st = st := if_neg hat
    have e2 : delB st = false := by simp [delB]; omega
    have E1 := Lib.hid e1
    have E2 := Lib.hid e2
    clear e1 e2
    have C := Lib.hid (del1_end w.heap.size (w.heap.size + 1) p b st _ (H.out.old O2H.out) (H.out.var.old (Old.alloc _ _)) hat')
    go_enter Tryd.func75, Tryd.ntmps75
    go_wp2_with (go_at_call 84; refine (refresh_any 102 _ _ _ (fun w' => Old w w' ∧ w'.cell? ⟨w.heap.size + 1, 0, none⟩ = some (.bool false)) (fun _ => by kernel_rfl) (C.out.mono fun e w' h => ⟨h.1, O2H.out.trans h.2, heap1_cell ((h.2.heap (Array.getElem?_eq_some_iff.1 HF.out).1).trans HF.out)⟩)).mono ?_; rintro e w1 ⟨rfl, h1, hc⟩; have H1 := Lib.hid h1; clear h1 C)
    refine bodyPost_ret (v := .bool false) ?_ rfl ?_
    · simp [results, Tryd.results75, go_sem, hc]
    · exact ⟨by rw [E2.out], Step.same H.out H1.out E1.out⟩

theorem keyed_k6 (p b : Nat) (st : St) (s : ByteArray) (n : Int) (f g : Bool) (w : World) (h : RB w p b st) : Keyed p b ⟨6, s, n, f, g⟩ (delSt st) (tellB (delB st)) w := by
  have HA : Hid (∀ o, RB (w.alloc o) p b st) := fun o => h.old (Old.alloc w o)
  clear h
  unfold Keyed KeyS.v
  go_enter Tryd.func51, Tryd.ntmps51
  go_wp2_with (first
    | (go_at_call 75; refine (del_any p b st _ (HA.out _)).mono ?_; rintro e w1 ⟨rfl, h1⟩; have H1 := Lib.hid h1; clear h1 HA)
    | (go_at_call 74; refine (told_any _ _).mono ?_; rintro e w2 ⟨rfl, rfl⟩))
  go_ret2
  exact ⟨rfl, H1.out.from_old (Old.alloc _ _)⟩
end Go.Proofs.YtlfmmmbafkelhaaDoor
