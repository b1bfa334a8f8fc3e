/- impl.keyed, impl.worded: the dispatch of the steps. -/
import Derived.Test.YtlfmmmbafkelhaaDoorKillF
import Derived.Test.YtlfmmmbafkelhaaDoorKey
namespace Go.Proofs.YtlfmmmbafkelhaaDoor
open Go.RowKit
set_option linter.unusedVariables false
set_option linter.unusedSimpArgs false
set_option maxRecDepth 100000

/-- What impl.keyed does of a step: it tells t, and leaves st'. -/
def Keyed (p b : Nat) (k : KeyS) (st' : St) (t : Int) (w : World) : Prop :=
  Calls Tryd.prog 51 #[.pointer (some ⟨p, 0, none⟩), k.v] w fun e w' => e = .returned (.tuple #[.int .i64 t, .bool true]) ∧ Step p b st' w w'

theorem keyed_k2 (p b : Nat) (st : St) (s : ByteArray) (n : Int) (f g : Bool) (w : World) (h : RB w p b st) : Keyed p b ⟨2, s, n, f, g⟩ { st with at_ := min (st.at_ + 1) st.l.length } (-1) w := by
  have HA : Hid (∀ o, RB (w.alloc o) p b st) := fun o => h.old (Old.alloc w o)
  clear h
  unfold Keyed KeyS.v
  go_enter Tryd.func51, Tryd.ntmps51
  go_wp2_with (go_at_call 70; refine (fwd_any p b st _ (HA.out _)).mono ?_; rintro e w1 ⟨rfl, h1⟩; have H1 := Lib.hid h1; clear h1 HA)
  go_ret2
  exact ⟨rfl, H1.out.from_old (Old.alloc _ _)⟩

theorem keyed_k3 (p b : Nat) (st : St) (s : ByteArray) (n : Int) (f g : Bool) (w : World) (h : RB w p b st) : Keyed p b ⟨3, s, n, f, g⟩ { st with at_ := st.at_ - 1 } (-1) w := by
  have HA : Hid (∀ o, RB (w.alloc o) p b st) := fun o => h.old (Old.alloc w o)
  clear h
  unfold Keyed KeyS.v
  go_enter Tryd.func51, Tryd.ntmps51
  go_wp2_with (go_at_call 71; refine (bwd_any p b st _ (HA.out _)).mono ?_; rintro e w1 ⟨rfl, h1⟩; have H1 := Lib.hid h1; clear h1 HA)
  go_ret2
  exact ⟨rfl, H1.out.from_old (Old.alloc _ _)⟩

theorem keyed_k4 (p b : Nat) (st : St) (s : ByteArray) (n : Int) (f g : Bool) (w : World) (h : RB w p b st) : Keyed p b ⟨4, s, n, f, g⟩ { st with at_ := 0 } (-1) w := by
  have HA : Hid (∀ o, RB (w.alloc o) p b st) := fun o => h.old (Old.alloc w o)
  clear h
  unfold Keyed KeyS.v
  go_enter Tryd.func51, Tryd.ntmps51
  go_wp2_with (go_at_call 72; refine (sta_any p b st _ (HA.out _)).mono ?_; rintro e w1 ⟨rfl, h1⟩; have H1 := Lib.hid h1; clear h1 HA)
  go_ret2
  exact ⟨rfl, H1.out.from_old (Old.alloc _ _)⟩

theorem keyed_k5 (p b : Nat) (st : St) (s : ByteArray) (n : Int) (f g : Bool) (w : World) (h : RB w p b st) : Keyed p b ⟨5, s, n, f, g⟩ { st with at_ := st.l.length } (-1) w := by
  have HA : Hid (∀ o, RB (w.alloc o) p b st) := fun o => h.old (Old.alloc w o)
  clear h
  unfold Keyed KeyS.v
  go_enter Tryd.func51, Tryd.ntmps51
  go_wp2_with (go_at_call 73; refine (end_any p b st _ (HA.out _)).mono ?_; rintro e w1 ⟨rfl, h1⟩; have H1 := Lib.hid h1; clear h1 HA)
  go_ret2
  exact ⟨rfl, H1.out.from_old (Old.alloc _ _)⟩

theorem keyed_k9 (p b : Nat) (st : St) (s : ByteArray) (n : Int) (f g : Bool) (w : World) (h : RB w p b st) : Keyed p b ⟨9, s, n, f, g⟩ { st with l := [], at_ := 0, kl := st.l } (-1) w := by
  have HA : Hid (∀ o, RB (w.alloc o) p b st) := fun o => h.old (Old.alloc w o)
  clear h
  unfold Keyed KeyS.v
  go_enter Tryd.func51, Tryd.ntmps51
  go_wp2_with (go_at_call 78; refine (era_any p b st _ (HA.out _)).mono ?_; rintro e w1 ⟨rfl, h1⟩; have H1 := Lib.hid h1; clear h1 HA)
  go_ret2
  exact ⟨rfl, H1.out.from_old (Old.alloc _ _)⟩

theorem worded_k15 (p b : Nat) (st : St) (w : World) (h : RB w p b st) :
    Calls Tryd.prog 81 #[.pointer (some ⟨p, 0, none⟩), .int .i64 15] w fun e w' => e = .returned (.tuple #[.int .i64 (-1), .bool true]) ∧ Step p b { st with l := st.l.take st.at_, kl := st.l.drop st.at_ } w w' := by
  have H := Lib.hid h
  clear h
  go_enter Tryd.func81, Tryd.ntmps81
  go_wp2_with (go_at_call 114; refine (kill_any p b st _ H.out).mono ?_; rintro e w1 ⟨rfl, h1⟩; have H1 := Lib.hid h1; clear h1 H)
  go_ret2
  exact ⟨rfl, H1.out⟩

theorem keyed_k15 (p b : Nat) (st : St) (s : ByteArray) (n : Int) (f g : Bool) (w : World) (h : RB w p b st) : Keyed p b ⟨15, s, n, f, g⟩ { st with l := st.l.take st.at_, kl := st.l.drop st.at_ } (-1) w := by
  have HA : Hid (∀ o, RB (w.alloc o) p b st) := fun o => h.old (Old.alloc w o)
  clear h
  unfold Keyed KeyS.v
  go_enter Tryd.func51, Tryd.ntmps51
  go_wp2_with (go_at_call 81; refine (worded_k15 p b st _ (HA.out _)).mono ?_; rintro e w1 ⟨rfl, h1⟩; have H1 := Lib.hid h1; clear h1 HA)
  go_ret2
  exact ⟨rfl, H1.out.from_old (Old.alloc _ _)⟩

theorem worded_k16 (p b : Nat) (st : St) (w : World) (h : RB w p b st) :
    Calls Tryd.prog 81 #[.pointer (some ⟨p, 0, none⟩), .int .i64 16] w fun e w' => e = .returned (.tuple #[.int .i64 (-1), .bool true]) ∧ Step p b (kfSt st) w w' := by
  have H := Lib.hid h
  clear h
  go_enter Tryd.func81, Tryd.ntmps81
  go_wp2_with (go_at_call 115; refine (kf_any p b st _ H.out).mono ?_; rintro e w1 ⟨rfl, h1⟩; have H1 := Lib.hid h1; clear h1 H)
  go_ret2
  exact ⟨rfl, H1.out⟩

theorem keyed_k16 (p b : Nat) (st : St) (s : ByteArray) (n : Int) (f g : Bool) (w : World) (h : RB w p b st) : Keyed p b ⟨16, s, n, f, g⟩ (kfSt st) (-1) w := by
  have HA : Hid (∀ o, RB (w.alloc o) p b st) := fun o => h.old (Old.alloc w o)
  clear h
  unfold Keyed KeyS.v
  go_enter Tryd.func51, Tryd.ntmps51
  go_wp2_with (go_at_call 81; refine (worded_k16 p b st _ (HA.out _)).mono ?_; rintro e w1 ⟨rfl, h1⟩; have H1 := Lib.hid h1; clear h1 HA)
  go_ret2
  exact ⟨rfl, H1.out.from_old (Old.alloc _ _)⟩
end Go.Proofs.YtlfmmmbafkelhaaDoor
