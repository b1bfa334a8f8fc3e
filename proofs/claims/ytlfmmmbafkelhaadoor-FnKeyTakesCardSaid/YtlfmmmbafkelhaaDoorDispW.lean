/- impl.keyed, impl.worded: DeleteWord. -/
import Derived.Test.YtlfmmmbafkelhaaDoorDisp
import Derived.Test.YtlfmmmbafkelhaaDoorDwM
namespace Go.Proofs.YtlfmmmbafkelhaaDoor
open Go.RowKit
set_option linter.unusedVariables false
set_option linter.unusedSimpArgs false
set_option maxRecDepth 100000

theorem worded_k13 (p b : Nat) (st : St) (w : World) (h : RB w p b st) :
    Calls Tryd.prog 81 #[.pointer (some ⟨p, 0, none⟩), .int .i64 13] w fun e w' => e = .returned (.tuple #[.int .i64 (-1), .bool true]) ∧ Step p b (dwSt st) w w' := by
  have H := Lib.hid h
  clear h
  go_enter Tryd.func81, Tryd.ntmps81
  go_wp2_with (go_at_call 112; refine (dw_any p b st _ H.out).mono ?_; rintro e w1 ⟨rfl, h1⟩; have H1 := Lib.hid h1; clear h1 H)
  go_ret2
  exact ⟨rfl, H1.out⟩

theorem keyed_k13 (p b : Nat) (st : St) (s : ByteArray) (n : Int) (f g : Bool) (w : World) (h : RB w p b st) : Keyed p b ⟨13, s, n, f, g⟩ (dwSt st) (-1) w := by
  have HA : Hid (∀ o, RB (w.alloc o) p b st) := fun o => h.old (Old.alloc w o)
  clear h
  unfold Keyed KeyS.v
  go_enter Tryd.func51, Tryd.ntmps51
  go_wp2_with (go_at_call 81; refine (worded_k13 p b st _ (HA.out _)).mono ?_; rintro e w1 ⟨rfl, h1⟩; have H1 := Lib.hid h1; clear h1 HA)
  go_ret2
  exact ⟨rfl, H1.out.from_old (Old.alloc _ _)⟩
end Go.Proofs.YtlfmmmbafkelhaaDoor
