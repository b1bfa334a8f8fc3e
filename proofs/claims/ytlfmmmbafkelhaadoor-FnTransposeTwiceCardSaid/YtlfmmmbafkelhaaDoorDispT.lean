/- impl.keyed, impl.worded: Transpose. -/
import Derived.Test.YtlfmmmbafkelhaaDoorDisp
import Derived.Test.YtlfmmmbafkelhaaDoorTran
namespace Go.Proofs.YtlfmmmbafkelhaaDoor
open Go.RowKit
set_option linter.unusedVariables false
set_option linter.unusedSimpArgs false
set_option maxRecDepth 100000
theorem tr_any2 (p b : Nat) (st : St) (w : World) (h : RB w p b st) (hx : 0 < st.at_ ∧ st.at_ < st.l.length) :
    Calls Tryd.prog 117 #[.pointer (some ⟨p, 0, none⟩)] w fun e w' => e = .returned (.tuple #[]) ∧ Step p b (tranSt st) w w' := tr_any p b st w h hx.1 hx.2

theorem worded_k18 (p b : Nat) (st : St) (w : World) (h : RB w p b st) (hx : 0 < st.at_ ∧ st.at_ < st.l.length) :
    Calls Tryd.prog 81 #[.pointer (some ⟨p, 0, none⟩), .int .i64 18] w fun e w' => e = .returned (.tuple #[.int .i64 (-1), .bool true]) ∧ Step p b (tranSt st) w w' := by
  have H := Lib.hid h
  clear h
  go_enter Tryd.func81, Tryd.ntmps81
  go_wp2_with (go_at_call 117; refine (tr_any2 p b st _ H.out hx).mono ?_; rintro e w1 ⟨rfl, h1⟩; have H1 := Lib.hid h1; clear h1 H)
  go_ret2
  exact ⟨rfl, H1.out⟩

theorem keyed_k18 (p b : Nat) (st : St) (s : ByteArray) (n : Int) (f g : Bool) (w : World) (h : RB w p b st) (hx : 0 < st.at_ ∧ st.at_ < st.l.length) : Keyed p b ⟨18, s, n, f, g⟩ (tranSt st) (-1) w := by
  have HA : Hid (∀ o, RB (w.alloc o) p b st) := fun o => h.old (Old.alloc w o)
  clear h
  unfold Keyed KeyS.v
  go_enter Tryd.func51, Tryd.ntmps51
  go_wp2_with (go_at_call 81; refine (worded_k18 p b st _ (HA.out _) hx).mono ?_; rintro e w1 ⟨rfl, h1⟩; have H1 := Lib.hid h1; clear h1 HA)
  go_ret2
  exact ⟨rfl, H1.out.from_old (Old.alloc _ _)⟩
end Go.Proofs.YtlfmmmbafkelhaaDoor
