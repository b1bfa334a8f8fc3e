/- readline's RuneBuffer: it is made, and a line is set. -/
import Derived.Test.YtlfmmmbafkelhaaDoorRB0
namespace Go.Proofs.YtlfmmmbafkelhaaDoor
open Go.RowKit
set_option linter.unusedVariables false
set_option linter.unusedSimpArgs false
set_option linter.unnecessarySimpa false
set_option maxRecDepth 100000

/-- A new RuneBuffer: no line, the prompt's runes, a width. -/
def NewAt (w : World) (p : Nat) (pl : List Int) (wd : Int) : Prop :=
  ∃ pr c1 c2 c3 c4 : Value, RunesAt w pr pl ∧ w.heap[p]? = some (.cells #[.slice none 0 0, .int .i64 0, pr, c1, c2, c3, c4, .int .i64 wd, .pointer none, .string ByteArray.empty, .slice none 0 0] 73)
theorem NewAt.pb {w : World} {p : Nat} {pl : List Int} {wd : Int} (h : NewAt w p pl wd) : PB w p (.slice none 0 0) (.int .i64 0) (.slice none 0 0) := by
  obtain ⟨pr, c1, c2, c3, c4, h1, h2⟩ := h
  exact ⟨_, _, _, _, _, _, _, _, h2⟩

theorem new_any (prompt : ByteArray) (wd : Int) (c1 c2 c3 c4 : Value) (w : World) (hs : prompt.size ≤ 1000000) (hc1 : ∃ n, c1 = .int .i64 n) (hc2 : ∃ n, c2 = .bool n) (hc3 : ∃ n, c3 = .bool n) (hc4 : ∃ n, c4 = .int .i32 n) :
    Calls Tryd.prog 60 #[.string prompt, .int .i64 wd, .agg #[c1, c2, c3, c4]] w fun e w' => ∃ p, e = .returned (.pointer (some ⟨p, 0, none⟩)) ∧ Old w w' ∧ w.heap.size ≤ p ∧ NewAt w' p (runes prompt) wd := by
  obtain ⟨n1, rfl⟩ := hc1
  obtain ⟨n2, rfl⟩ := hc2
  obtain ⟨n3, rfl⟩ := hc3
  obtain ⟨n4, rfl⟩ := hc4
  go_enter Tryd.func60, Tryd.ntmps60
  go_wp2_with (refine wpList_runes rfl 9 54 21 _ prompt rfl rfl (by kernel_rfl) (by kernel_rfl) (by kernel_rfl) (by omega) ?_; intro v w1 o1 r1 hv1 _; have k0 : w1.cell? ⟨w.heap.size, 0, none⟩ = some (.int .i64 n1) := (o1.cell (by simp)).trans ((World.cell?_alloc_mark w #[.int .i64 n1, .bool n2, .bool n3, .int .i32 n4] _ (0, 0) 0).trans rfl); have k1 : w1.cell? ⟨w.heap.size, 1, none⟩ = some (.bool n2) := (o1.cell (by simp)).trans ((World.cell?_alloc_mark w #[.int .i64 n1, .bool n2, .bool n3, .int .i32 n4] _ (0, 0) 1).trans rfl); have k2 : w1.cell? ⟨w.heap.size, 2, none⟩ = some (.bool n3) := (o1.cell (by simp)).trans ((World.cell?_alloc_mark w #[.int .i64 n1, .bool n2, .bool n3, .int .i32 n4] _ (0, 0) 2).trans rfl); have k3 : w1.cell? ⟨w.heap.size, 3, none⟩ = some (.int .i32 n4) := (o1.cell (by simp)).trans ((World.cell?_alloc_mark w #[.int .i64 n1, .bool n2, .bool n3, .int .i32 n4] _ (0, 0) 3).trans rfl); have O1 := Lib.hid o1; have R1 := Lib.hid r1; clear o1 r1; obtain ⟨vb, vc, rfl⟩ := hv1)
  go_ret
  have O0 : Old w w1 := (Old.alloc w _).trans O1.out
  refine ⟨w1.heap.size, rfl, O0.then_alloc _, O0.size, _, _, _, _, _, R1.out.later (Old.alloc _ _), heap_alloc_new w1 _⟩

/-- SetWithIdx's step. -/
theorem swi1_any (bx vx ix p : Nat) (bv : Value) (idx : Int) (x0 x1 : Value) (w : World) (hb : w.cell? ⟨bx, 0, none⟩ = some bv) (hv : w.cell? ⟨vx, 0, none⟩ = some (.pointer (some ⟨p, 0, none⟩))) (hi : w.cell? ⟨ix, 0, none⟩ = some (.int .i64 idx))
    (hne : vx ≠ p) (hne2 : ix ≠ p) (h0 : w.cell? ⟨p, 0, none⟩ = some x0) (h1 : w.cell? ⟨p, 1, none⟩ = some x1) (f0 : w.frozen? ⟨p, 0, none⟩ = false) (f1 : w.frozen? ⟨p, 1, none⟩ = false) (hbv : ∃ b n c, bv = .slice (some ⟨b, 0, none⟩) n c) :
    Calls Tryd.prog 85 #[.pointer (some ⟨bx, 0, none⟩), .pointer (some ⟨vx, 0, none⟩), .pointer (some ⟨ix, 0, none⟩)] w fun e w' => e = .returned (.tuple #[]) ∧ w' = (w.setCell ⟨p, 0, none⟩ bv).setCell ⟨p, 1, none⟩ (.int .i64 idx) := by
  obtain ⟨b, n, c, rfl⟩ := hbv
  go_enter Tryd.func85, Tryd.ntmps85
  go_wp2_with fail
  go_end0
  exact ⟨rfl, rfl⟩

theorem swi_any (p : Nat) (bv : Value) (idx : Int) (x0 x1 : Value) (w : World)
    (h0 : w.cell? ⟨p, 0, none⟩ = some x0) (h1 : w.cell? ⟨p, 1, none⟩ = some x1) (f0 : w.frozen? ⟨p, 0, none⟩ = false) (f1 : w.frozen? ⟨p, 1, none⟩ = false) (hbv : ∃ b n c, bv = .slice (some ⟨b, 0, none⟩) n c) :
    Calls Tryd.prog 62 #[.pointer (some ⟨p, 0, none⟩), .int .i64 idx, bv] w fun e w' => e = .returned (.tuple #[]) ∧ ∃ w1, Old w w1 ∧ w' = (w1.setCell ⟨p, 0, none⟩ bv).setCell ⟨p, 1, none⟩ (.int .i64 idx) := by
  obtain ⟨b, n, c, rfl⟩ := hbv
  have hp : p < w.heap.size := World.block_lt_of_cell? w _ h0
  have hmf : ∀ (fn : Fn) (first cap : Array Value) (w : World), (Instr.makeFunc fn first cap).run Tryd.prog w = .ok (.func fn first cap) w := fun _ _ _ _ => rfl
  have O : ∀ o1 o2 o3, Old w (((w.alloc o1).alloc o2).alloc o3) := fun o1 o2 o3 => ((Old.alloc w o1).trans (Old.alloc _ o2)).trans (Old.alloc _ o3)
  let W : World := ((w.alloc (.cells #[.pointer (some ⟨p, 0, none⟩)] 63)).alloc (.cells #[.int .i64 idx] 3)).alloc (.cells #[.slice (some ⟨b, 0, none⟩) n c] 54)
  have OW : Old w W := O _ _ _
  have a0 : W.cell? ⟨w.heap.size, 0, none⟩ = some (.pointer (some ⟨p, 0, none⟩)) := ((Old.alloc _ _).cell (by simp; omega)).trans (((Old.alloc _ _).cell (by simp)).trans ((World.cell?_alloc_mark w #[.pointer (some ⟨p, 0, none⟩)] _ (0, 0) 0).trans rfl))
  have a1 : W.cell? ⟨w.heap.size + 1, 0, none⟩ = some (.int .i64 idx) := ((Old.alloc _ _).cell (by simp)).trans (by have := World.cell?_alloc_mark (w.alloc (.cells #[.pointer (some ⟨p, 0, none⟩)] 63)) #[.int .i64 idx] 3 (0, 0) 0; simpa using this)
  have a2 : W.cell? ⟨w.heap.size + 2, 0, none⟩ = some (.slice (some ⟨b, 0, none⟩) n c) := by have := World.cell?_alloc_mark ((w.alloc (.cells #[.pointer (some ⟨p, 0, none⟩)] 63)).alloc (.cells #[.int .i64 idx] 3)) #[.slice (some ⟨b, 0, none⟩) n c] 54 (0, 0) 0; simpa using this
  have C := Lib.hid (swi1_any (w.heap.size + 2) w.heap.size (w.heap.size + 1) p _ idx x0 x1 W a2 a0 a1 (by omega) (by omega) ((OW.cell hp).trans h0) ((OW.cell hp).trans h1) ((OW.frozen hp).trans f0) ((OW.frozen hp).trans f1) ⟨b, n, c, rfl⟩)
  have OH := Lib.hid OW
  clear a0 a1 a2 O OW
  go_enter Tryd.func62, Tryd.ntmps62
  go_wp2_with (go_at_call 84; refine (refresh_any 85 _ _ _ (fun w' => w' = (W.setCell ⟨p, 0, none⟩ (.slice (some ⟨b, 0, none⟩) n c)).setCell ⟨p, 1, none⟩ (.int .i64 idx)) (fun _ => by kernel_rfl) C.out).mono ?_; rintro e w1 ⟨rfl, rfl⟩)
  go_end0
  exact ⟨rfl, W, OH.out, rfl⟩
end Go.Proofs.YtlfmmmbafkelhaaDoor
