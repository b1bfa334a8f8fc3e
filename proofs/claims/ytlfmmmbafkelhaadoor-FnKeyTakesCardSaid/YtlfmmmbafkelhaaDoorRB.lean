/- readline's RuneBuffer: its steps that move. -/
import Derived.Test.YtlfmmmbafkelhaaDoorRB0
namespace Go.Proofs.YtlfmmmbafkelhaaDoor
open Go.RowKit
set_option linter.unusedVariables false
set_option linter.unusedSimpArgs false
set_option maxRecDepth 100000

theorem fwd1_any (v p b : Nat) (st : St) (w : World) (h : RB w p b st) (hv : Var w v p b) :
    Calls Tryd.prog 98 #[.pointer (some ⟨v, 0, none⟩)] w fun e w' => e = .returned (.tuple #[]) ∧ Step p b { st with at_ := min (st.at_ + 1) st.l.length } w w' := by
  have H := Lib.hid h
  obtain ⟨c, kv, hp, hown, hat, hl, hkl, hne, hk, ht⟩ := h
  have hv0 := hv.cell
  have c0 := hp.c0
  have c1 := hp.c1
  have f1 := hp.free 1
  clear hp hown hk
  by_cases e : st.at_ = st.l.length
  · have E := Lib.hid e
    have d1 : ((st.at_ : Int) == (st.l.length : Int)) = true := by simp [e]
    clear e
    go_enter Tryd.func98, Tryd.ntmps98
    go_wp2_with fail
    go_quiet (fail)
    go_wp2_with fail
    refine bodyPost_ret (results_none rfl _ _ _) rfl ?_
    exact ⟨rfl, Step.same H.out (Old.drewN w _) (by have := E.out; cases st; simp at this ⊢; omega)⟩
  · have d1 : ((st.at_ : Int) == (st.l.length : Int)) = false := by simp; omega
    have hlt : st.at_ < st.l.length := by omega
    clear e
    go_enter Tryd.func98, Tryd.ntmps98
    go_wp2_with fail
    go_quiet (fail)
    go_wp2_with fail
    go_end0
    exact ⟨rfl, Step.at_ H.out (Old.drewN w _) (st.at_ + 1) (by omega) (by congr 1; omega)⟩

theorem bwd1_any (v p b : Nat) (st : St) (w : World) (h : RB w p b st) (hv : Var w v p b) :
    Calls Tryd.prog 99 #[.pointer (some ⟨v, 0, none⟩)] w fun e w' => e = .returned (.tuple #[]) ∧ Step p b { st with at_ := st.at_ - 1 } w w' := by
  have H := Lib.hid h
  obtain ⟨c, kv, hp, hown, hat, hl, hkl, hne, hk, ht⟩ := h
  have hv0 := hv.cell
  have c0 := hp.c0
  have c1 := hp.c1
  have f1 := hp.free 1
  clear hp hown hk
  by_cases e : st.at_ = 0
  · have E := Lib.hid e
    have d1 : ((st.at_ : Int) == 0) = true := by simp [e]
    clear e
    go_enter Tryd.func99, Tryd.ntmps99
    go_wp2_with fail
    refine bodyPost_ret (results_none rfl _ _ _) rfl ?_
    exact ⟨rfl, Step.same H.out (Old.refl w) (by have := E.out; cases st; simp at this ⊢; omega)⟩
  · obtain ⟨a, ha⟩ : ∃ a, st.at_ = a + 1 := ⟨st.at_ - 1, by omega⟩
    have HA := Lib.hid ha
    have d1 : (((a : Int) + 1) == 0) = false := by simp; omega
    rw [ha] at c1 hat
    have c1' : w.cell? ⟨p, 1, none⟩ = some (.int .i64 ((a : Int) + 1)) := c1
    clear e ha c1
    go_enter Tryd.func99, Tryd.ntmps99
    go_wp2_with fail
    go_end0
    have := Step.at_ H.out (Old.refl w) a (by have := HA.out; omega) (st' := { st with at_ := st.at_ - 1 }) (by congr 1; have := HA.out; omega)
    refine ⟨rfl, ?_⟩
    simpa using this

theorem sta1_any (v p b : Nat) (st : St) (w : World) (h : RB w p b st) (hv : Var w v p b) :
    Calls Tryd.prog 100 #[.pointer (some ⟨v, 0, none⟩)] w fun e w' => e = .returned (.tuple #[]) ∧ Step p b { st with at_ := 0 } w w' := by
  have H := Lib.hid h
  obtain ⟨c, kv, hp, hown, hat, hl, hkl, hne, hk, ht⟩ := h
  have hv0 := hv.cell
  have c0 := hp.c0
  have c1 := hp.c1
  have f1 := hp.free 1
  clear hp hown hk
  by_cases e : st.at_ = 0
  · have E := Lib.hid e
    have d1 : ((st.at_ : Int) == 0) = true := by simp [e]
    clear e
    go_enter Tryd.func100, Tryd.ntmps100
    go_wp2_with fail
    refine bodyPost_ret (results_none rfl _ _ _) rfl ?_
    exact ⟨rfl, Step.same H.out (Old.refl w) (by have := E.out; cases st; simp at this ⊢; omega)⟩
  · have d1 : ((st.at_ : Int) == 0) = false := by simp; omega
    clear e
    go_enter Tryd.func100, Tryd.ntmps100
    go_wp2_with fail
    go_end0
    exact ⟨rfl, Step.at_ H.out (Old.refl w) 0 (by omega) rfl⟩

theorem end1_any (v p b : Nat) (st : St) (w : World) (h : RB w p b st) (hv : Var w v p b) :
    Calls Tryd.prog 101 #[.pointer (some ⟨v, 0, none⟩)] w fun e w' => e = .returned (.tuple #[]) ∧ Step p b { st with at_ := st.l.length } w w' := by
  have H := Lib.hid h
  obtain ⟨c, kv, hp, hown, hat, hl, hkl, hne, hk, ht⟩ := h
  have hv0 := hv.cell
  have c0 := hp.c0
  have c1 := hp.c1
  have f1 := hp.free 1
  clear hp hown hk
  by_cases e : st.at_ = st.l.length
  · have E := Lib.hid e
    have d1 : ((st.at_ : Int) == (st.l.length : Int)) = true := by simp [e]
    clear e
    go_enter Tryd.func101, Tryd.ntmps101
    go_wp2_with fail
    go_quiet (fail)
    go_wp2_with fail
    refine bodyPost_ret (results_none rfl _ _ _) rfl ?_
    exact ⟨rfl, Step.same H.out (Old.drewN w _) (by have := E.out; cases st; simp at this ⊢; omega)⟩
  · have d1 : ((st.at_ : Int) == (st.l.length : Int)) = false := by simp; omega
    clear e
    go_enter Tryd.func101, Tryd.ntmps101
    go_wp2_with fail
    go_quiet (fail)
    go_wp2_with fail
    go_region
    go_wp2_with fail
    go_end0
    exact ⟨rfl, Step.at_ H.out (Old.drewN w _) _ (Nat.le_refl _) rfl⟩

theorem fwd_any (p b : Nat) (st : St) (w : World) (h : RB w p b st) :
    Calls Tryd.prog 70 #[.pointer (some ⟨p, 0, none⟩)] w fun e w' => e = .returned (.tuple #[]) ∧ Step p b { st with at_ := min (st.at_ + 1) st.l.length } w w' := by
  have H := Lib.hid h
  have hmf : ∀ (fn : Fn) (first cap : Array Value) (w : World), (Instr.makeFunc fn first cap).run Tryd.prog w = .ok (.func fn first cap) w := fun _ _ _ _ => rfl
  clear h
  go_enter Tryd.func70, Tryd.ntmps70
  go_wp2_with (go_at_call 84; refine (refresh_any 98 _ _ _ (Step p b { st with at_ := min (st.at_ + 1) st.l.length } (w.alloc (.cells #[.pointer (some ⟨p, 0, none⟩)] 63))) (fun _ => by kernel_rfl) (fwd1_any _ p b st _ (H.out.old (Old.alloc _ _)) H.out.var)).mono ?_; rintro e w1 ⟨rfl, h1⟩)
  go_end0
  exact ⟨rfl, h1.from_old (Old.alloc _ _)⟩

theorem bwd_any (p b : Nat) (st : St) (w : World) (h : RB w p b st) :
    Calls Tryd.prog 71 #[.pointer (some ⟨p, 0, none⟩)] w fun e w' => e = .returned (.tuple #[]) ∧ Step p b { st with at_ := st.at_ - 1 } w w' := by
  have H := Lib.hid h
  have hmf : ∀ (fn : Fn) (first cap : Array Value) (w : World), (Instr.makeFunc fn first cap).run Tryd.prog w = .ok (.func fn first cap) w := fun _ _ _ _ => rfl
  clear h
  go_enter Tryd.func71, Tryd.ntmps71
  go_wp2_with (go_at_call 84; refine (refresh_any 99 _ _ _ (Step p b { st with at_ := st.at_ - 1 } (w.alloc (.cells #[.pointer (some ⟨p, 0, none⟩)] 63))) (fun _ => by kernel_rfl) (bwd1_any _ p b st _ (H.out.old (Old.alloc _ _)) H.out.var)).mono ?_; rintro e w1 ⟨rfl, h1⟩)
  go_end0
  exact ⟨rfl, h1.from_old (Old.alloc _ _)⟩

theorem sta_any (p b : Nat) (st : St) (w : World) (h : RB w p b st) :
    Calls Tryd.prog 72 #[.pointer (some ⟨p, 0, none⟩)] w fun e w' => e = .returned (.tuple #[]) ∧ Step p b { st with at_ := 0 } w w' := by
  have H := Lib.hid h
  have hmf : ∀ (fn : Fn) (first cap : Array Value) (w : World), (Instr.makeFunc fn first cap).run Tryd.prog w = .ok (.func fn first cap) w := fun _ _ _ _ => rfl
  clear h
  go_enter Tryd.func72, Tryd.ntmps72
  go_wp2_with (go_at_call 84; refine (refresh_any 100 _ _ _ (Step p b { st with at_ := 0 } (w.alloc (.cells #[.pointer (some ⟨p, 0, none⟩)] 63))) (fun _ => by kernel_rfl) (sta1_any _ p b st _ (H.out.old (Old.alloc _ _)) H.out.var)).mono ?_; rintro e w1 ⟨rfl, h1⟩)
  go_end0
  exact ⟨rfl, h1.from_old (Old.alloc _ _)⟩

theorem end_any (p b : Nat) (st : St) (w : World) (h : RB w p b st) :
    Calls Tryd.prog 73 #[.pointer (some ⟨p, 0, none⟩)] w fun e w' => e = .returned (.tuple #[]) ∧ Step p b { st with at_ := st.l.length } w w' := by
  have H := Lib.hid h
  have hmf : ∀ (fn : Fn) (first cap : Array Value) (w : World), (Instr.makeFunc fn first cap).run Tryd.prog w = .ok (.func fn first cap) w := fun _ _ _ _ => rfl
  clear h
  go_enter Tryd.func73, Tryd.ntmps73
  go_wp2_with (go_at_call 84; refine (refresh_any 101 _ _ _ (Step p b { st with at_ := st.l.length } (w.alloc (.cells #[.pointer (some ⟨p, 0, none⟩)] 63))) (fun _ => by kernel_rfl) (end1_any _ p b st _ (H.out.old (Old.alloc _ _)) H.out.var)).mono ?_; rintro e w1 ⟨rfl, h1⟩)
  go_end0
  exact ⟨rfl, h1.from_old (Old.alloc _ _)⟩

end Go.Proofs.YtlfmmmbafkelhaaDoor
