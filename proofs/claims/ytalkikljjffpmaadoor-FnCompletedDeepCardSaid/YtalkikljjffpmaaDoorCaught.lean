/- Contract: impl.caught of a function that returns. -/
import Derived.Test.YtalkikljjffpmaaDoorProg
import Derived.Test.YtalkikljjffpmaaDoorBase
import Derived.Defers
import Derived.Recover
namespace Go.Proofs.YtalkikljjffpmaaDoor
open Go.RowKit
set_option linter.unusedVariables false
set_option linter.unusedSimpArgs false
set_option maxRecDepth 100000

theorem caught_idle (p : Addr) (w : World) :
    CallsD Tryd.prog 52 #[.pointer (some p)] .returning w fun e u' w' => e = .returned (.tuple #[]) ∧ u' = .returning ∧ w' = w := by
  refine callsD_of_wpS Tryd.func52 rfl fun c₀ cs hu => ?_
  apply wpS_seq
  apply wpS_region
  simp [wpOpsS, go_sem, recoverD, hu, Tryd.ntmps52, Exit.thenS]
  refine wpS_cond (t := false) (by simp [Act.eval, Array.replicate]) ?_
  simp only [Bool.false_eq_true, if_false]
  refine wpS_of_wp (wp_skip ?_)
  cases c₀
  simp_all [bodyPostS, results, Tryd.results52]

/-- impl.caught of a function K with what it has captured, that returns with R, and lets caught's own variable be. -/
theorem caught_ok (K : FuncId) (caps : Array Value) (w : World) (R : World → Prop) (hk : ∀ W : World, (callFunc K caps).run Tryd.prog W = .ok (.enter K caps) W)
    (hf : Calls Tryd.prog K caps (w.alloc (.cells #[.bool false] 4)) fun e w1 => e = .returned (.tuple #[]) ∧ w1.heap[w.heap.size]? = some (.cells #[.bool false] 4) ∧ R w1) :
    Calls Tryd.prog 27 #[.func (.func K) #[] caps] w fun e w' => e = .returned (.bool true) ∧ ∃ w1, R w1 ∧ w' = w1.setCell ⟨w.heap.size, 0, none⟩ (.bool true) := by
  have hmf : ∀ (fn : Fn) (first cap : Array Value) (w : World), (Instr.makeFunc fn first cap).run Tryd.prog w = .ok (.func fn first cap) w := fun _ _ _ _ => rfl
  have HF := Lib.hid hf
  clear hf
  go_enter_defers Tryd.func27, Tryd.ntmps27
  go_wp2_with ((with_reducible refine HF.out.mono ?_); rintro e w1 ⟨rfl, hb, hr⟩; have hc : w1.cell? ⟨w.heap.size, 0, none⟩ = some (.bool false) := (by simp [World.cell?, hb]); have hz : w1.frozen? ⟨w.heap.size, 0, none⟩ = false := (by simp [World.frozen?, hb]); have HR := Lib.hid hr; have HB := Lib.hid hb; clear hr hb)
  refine leaves_cons (f := 52) (args := #[.pointer (some ⟨w.heap.size, 0, none⟩)]) (by simp) (by simp [go_sem]) ?_
  refine (caught_idle ⟨w.heap.size, 0, none⟩ _).mono ?_
  rintro e u' w'' ⟨rfl, rfl, rfl⟩
  have hs : (w1.setCell ⟨w.heap.size, 0, none⟩ (.bool true)).cell? ⟨w.heap.size, 0, none⟩ = some (.bool true) := World.cell?_setCell_same' w1 ⟨w.heap.size, 0, none⟩ _ (by rw [hc]; rfl)
  simp [Leaves, settle, results, Tryd.results27, go_sem, hs]
  exact ⟨w1, HR.out, rfl⟩
end Go.Proofs.YtalkikljjffpmaaDoor
