/- bytes.Buffer in a struct's field: Reset, Bytes. -/
import Derived.Test.YtpkmamdgpjncoaaDoorBufW
import Derived.BigQuiet
namespace Go.Proofs.YtpkmamdgpjncoaaDoor
open Go.RowKit
set_option linter.unusedVariables false
set_option linter.unusedSimpArgs false
set_option linter.unnecessarySimpa false
set_option maxRecDepth 100000

theorem rst_any (b o n cap : Nat) (ao : Option Addr) (C : Array Value) (T : TypeId) (w : World) (hC : w.heap[b]? = some (.cells C T)) (h0 : C[o]? = some (.slice ao n cap)) (h1 : ∃ x, C[o + 1]? = some x) (h2 : ∃ x, C[o + 2]? = some x) (hn : n ≤ cap) (hm : cap ≤ maxLen) :
    Calls Tryd.prog 60 #[.pointer (some ⟨b, o, none⟩)] w fun e w' => e = .returned (.tuple #[]) ∧ w' = ((w.setCell ⟨b, o, none⟩ (.slice ao 0 cap)).setCell ⟨b, o + 1, none⟩ (.int .i64 0)).setCell ⟨b, o + 2, none⟩ (.int .i8 0) := by
  obtain ⟨x1, h1⟩ := h1
  obtain ⟨x2, h2⟩ := h2
  have c0 := (fcell hC o).trans h0
  have f0 := ffree hC o
  have hC1 := fset (j := o) hC (.slice ao 0 cap)
  have c1 : (w.setCell ⟨b, o, none⟩ (.slice ao 0 cap)).cell? ⟨b, o + 1, none⟩ = some x1 := by rw [fcell hC1, Array.getElem?_setIfInBounds_ne (by omega)]; exact h1
  have f1 := ffree hC1 (o + 1)
  have hC2 := fset (j := o + 1) hC1 (.int .i64 0)
  have c2 : ((w.setCell ⟨b, o, none⟩ (.slice ao 0 cap)).setCell ⟨b, o + 1, none⟩ (.int .i64 0)).cell? ⟨b, o + 2, none⟩ = some x2 := by rw [fcell hC2, Array.getElem?_setIfInBounds_ne (by omega), Array.getElem?_setIfInBounds_ne (by omega)]; exact h2
  have f2 := ffree hC2 (o + 2)
  clear hC1 hC2 hC h0 h1 h2
  unfold maxLen at hm
  go_enter Tryd.func60, Tryd.ntmps60
  go_wp2_with fail
  go_end0
  exact ⟨rfl, rfl⟩
theorem byt_nil (b o : Nat) (C : Array Value) (T : TypeId) (w : World) (hC : w.heap[b]? = some (.cells C T)) (h0 : C[o]? = some (.slice none 0 0)) (h1 : C[o + 1]? = some (.int .i64 0)) :
    Calls Tryd.prog 61 #[.pointer (some ⟨b, o, none⟩)] w fun e w' => e = .returned (.slice none 0 0) ∧ Old w w' ∧ w'.heap.size = w.heap.size := by
  have c0 := (fcell hC o).trans h0
  have c1 := (fcell hC (o + 1)).trans h1
  clear hC h0 h1
  go_enter Tryd.func61, Tryd.ntmps61
  go_wp2_with fail
  go_quiet (fail)
  go_wp2_with fail
  go_ret
  exact ⟨rfl, Old.drewN _ _, rfl⟩
theorem byt_row (b o g n cap : Nat) (C : Array Value) (T : TypeId) (w : World) (hC : w.heap[b]? = some (.cells C T)) (h0 : C[o]? = some (.slice (some ⟨g, 0, none⟩) n cap)) (h1 : C[o + 1]? = some (.int .i64 0)) (hn : n ≤ cap) (hm : cap ≤ maxLen) (h00 : 0 < cap) :
    Calls Tryd.prog 61 #[.pointer (some ⟨b, o, none⟩)] w fun e w' => e = .returned (.slice (some ⟨g, 0, none⟩) n cap) ∧ Old w w' ∧ w'.heap.size = w.heap.size := by
  have c0 := (fcell hC o).trans h0
  have c1 := (fcell hC (o + 1)).trans h1
  have hne : ¬ cap = 0 := by omega
  clear hC h0 h1
  unfold maxLen at hm
  go_enter Tryd.func61, Tryd.ntmps61
  go_wp2_with fail
  go_quiet (fail)
  go_wp2_with fail
  go_ret
  exact ⟨rfl, Old.drewN _ _, rfl⟩
end Go.Proofs.YtpkmamdgpjncoaaDoor
