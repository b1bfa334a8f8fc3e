/- impl.keyed: Backspace. -/
import Derived.Test.YtlfmmmbafkelhaaDoorDisp
import Derived.Test.YtlfmmmbafkelhaaDoorBksp
namespace Go.Proofs.YtlfmmmbafkelhaaDoor
open Go.RowKit
set_option linter.unusedVariables false
set_option linter.unusedSimpArgs false
set_option maxRecDepth 100000

theorem keyed_k7 (p b : Nat) (st : St) (s : ByteArray) (n : Int) (f g : Bool) (w : World) (h : RB w p b st) : Keyed p b ⟨7, s, n, f, g⟩ (bkSt st) (-1) w := by
  have HA : Hid (∀ o, RB (w.alloc o) p b st) := fun o => h.old (Old.alloc w o)
  clear h
  unfold Keyed KeyS.v
  go_enter Tryd.func51, Tryd.ntmps51
  go_wp2_with (go_at_call 76; refine (bk_any p b st _ (HA.out _)).mono ?_; rintro e w1 ⟨rfl, h1⟩; have H1 := Lib.hid h1; clear h1 HA)
  go_ret2
  exact ⟨rfl, H1.out.from_old (Old.alloc _ _)⟩
end Go.Proofs.YtlfmmmbafkelhaaDoor
