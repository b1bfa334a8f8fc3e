/- A document's words as texts. -/
import Derived.Test.YtleamondilmojaaDoorDocW
namespace Go.Proofs.YtleamondilmojaaDoor
open Go.RowKit
set_option linter.unusedVariables false
set_option linter.unusedSimpArgs false
set_option linter.unnecessarySimpa false
set_option maxRecDepth 100000

section
variable (p : Nat) (l : Bs) (k : Nat) (w : World) (h : DP w p l k) (hk : k ≤ l.length) (ok : okT l)
include h hk ok
theorem wb_any : Calls Tryd.prog 46 #[.pointer (some ⟨p, 0, none⟩)] w fun e w' => e = .returned (.string (tx ((l.take k).drop (wS (isB 32) (l.take k))))) ∧ Old w w' := by
  have H := Lib.hid h
  have OK := Lib.hid ok
  have hn := (ok.take k).n
  have TT := fun w' (o : Old w w') => tb_any p l k w' (H.out.old o) hk OK.out
  have FF := fun w' (o : Old w w') => fs_any p l k w' (H.out.old o) hk OK.out
  clear h ok
  obtain ⟨m, hm⟩ : ∃ m, m = l.take k := ⟨_, rfl⟩
  rw [← hm] at hn TT FF ⊢
  have hle := wS_le (isB 32) m
  have TB := Lib.hid TT
  have FB := Lib.hid FF
  clear TT FF hm
  generalize wS (isB 32) m = q at hle FB ⊢
  have hs : (tx m).size = m.length := tx_size m
  have e3 : (tx m).extract q m.length = tx (m.drop q) := ext_post
  have i0 : (0 : Int) ≤ q := by omega
  have i1 : (q : Int) ≤ m.length := by omega
  go_enter Tryd.func46, Tryd.ntmps46
  go_wp2_with (first
    | (go_at_call 36; refine (TB.out _ (Old.refl _)).mono ?_; rintro e w1 ⟨rfl, o1⟩; have O1 := Lib.hid o1; clear o1)
    | (go_at_call 70; refine (FB.out _ O1.out).mono ?_; rintro e w2 ⟨rfl, o2⟩; have O2 := Lib.hid (O1.out.trans o2); clear o2))
  go_ret
  exact ⟨rfl, O2.out⟩
theorem wbs_any : Calls Tryd.prog 48 #[.pointer (some ⟨p, 0, none⟩)] w fun e w' => e = .returned (.string (tx ((l.take k).drop (wSS (isB 32) (noB 32) (l.take k))))) ∧ Old w w' := by
  have H := Lib.hid h
  have OK := Lib.hid ok
  have hn := (ok.take k).n
  have TT := fun w' (o : Old w w') => tb_any p l k w' (H.out.old o) hk OK.out
  have FF := fun w' (o : Old w w') => fss_any p l k w' (H.out.old o) hk OK.out
  clear h ok
  obtain ⟨m, hm⟩ : ∃ m, m = l.take k := ⟨_, rfl⟩
  rw [← hm] at hn TT FF ⊢
  have hle := wSS_le (isB 32) (noB 32) m
  have TB := Lib.hid TT
  have FB := Lib.hid FF
  clear TT FF hm
  generalize wSS (isB 32) (noB 32) m = q at hle FB ⊢
  have hs : (tx m).size = m.length := tx_size m
  have e3 : (tx m).extract q m.length = tx (m.drop q) := ext_post
  have i0 : (0 : Int) ≤ q := by omega
  have i1 : (q : Int) ≤ m.length := by omega
  go_enter Tryd.func48, Tryd.ntmps48
  go_wp2_with (first
    | (go_at_call 36; refine (TB.out _ (Old.refl _)).mono ?_; rintro e w1 ⟨rfl, o1⟩; have O1 := Lib.hid o1; clear o1)
    | (go_at_call 72; refine (FB.out _ O1.out).mono ?_; rintro e w2 ⟨rfl, o2⟩; have O2 := Lib.hid (O1.out.trans o2); clear o2))
  go_ret
  exact ⟨rfl, O2.out⟩
theorem wa_any : Calls Tryd.prog 47 #[.pointer (some ⟨p, 0, none⟩)] w fun e w' => e = .returned (.string (tx ((l.drop k).take (wE (isB 32) (l.drop k))))) ∧ Old w w' := by
  have H := Lib.hid h
  have OK := Lib.hid ok
  have hn := (ok.drop k).n
  have TT := fun w' (o : Old w w') => ta_any p l k w' (H.out.old o) hk OK.out
  have FF := fun w' (o : Old w w') => fe_any p l k w' (H.out.old o) hk OK.out
  clear h ok
  obtain ⟨m, hm⟩ : ∃ m, m = l.drop k := ⟨_, rfl⟩
  rw [← hm] at hn TT FF ⊢
  have hle := wE_le (isB 32) m
  have TB := Lib.hid TT
  have FB := Lib.hid FF
  clear TT FF hm
  generalize wE (isB 32) m = q at hle FB ⊢
  have hs : (tx m).size = m.length := tx_size m
  have e3 : (tx m).extract 0 q = tx (m.take q) := ext_pre
  have i0 : (0 : Int) ≤ q := by omega
  have i1 : (q : Int) ≤ m.length := by omega
  go_enter Tryd.func47, Tryd.ntmps47
  go_wp2_with (first
    | (go_at_call 37; refine (TB.out _ (Old.refl _)).mono ?_; rintro e w1 ⟨rfl, o1⟩; have O1 := Lib.hid o1; clear o1)
    | (go_at_call 71; refine (FB.out _ O1.out).mono ?_; rintro e w2 ⟨rfl, o2⟩; have O2 := Lib.hid (O1.out.trans o2); clear o2))
  go_ret
  exact ⟨rfl, O2.out⟩
theorem was_any : Calls Tryd.prog 49 #[.pointer (some ⟨p, 0, none⟩)] w fun e w' => e = .returned (.string (tx ((l.drop k).take (wES (isB 32) (noB 32) (l.drop k))))) ∧ Old w w' := by
  have H := Lib.hid h
  have OK := Lib.hid ok
  have hn := (ok.drop k).n
  have TT := fun w' (o : Old w w') => ta_any p l k w' (H.out.old o) hk OK.out
  have FF := fun w' (o : Old w w') => fes_any p l k w' (H.out.old o) hk OK.out
  clear h ok
  obtain ⟨m, hm⟩ : ∃ m, m = l.drop k := ⟨_, rfl⟩
  rw [← hm] at hn TT FF ⊢
  have hle := wES_le (isB 32) (noB 32) m
  have TB := Lib.hid TT
  have FB := Lib.hid FF
  clear TT FF hm
  generalize wES (isB 32) (noB 32) m = q at hle FB ⊢
  have hs : (tx m).size = m.length := tx_size m
  have e3 : (tx m).extract 0 q = tx (m.take q) := ext_pre
  have i0 : (0 : Int) ≤ q := by omega
  have i1 : (q : Int) ≤ m.length := by omega
  go_enter Tryd.func49, Tryd.ntmps49
  go_wp2_with (first
    | (go_at_call 37; refine (TB.out _ (Old.refl _)).mono ?_; rintro e w1 ⟨rfl, o1⟩; have O1 := Lib.hid o1; clear o1)
    | (go_at_call 73; refine (FB.out _ O1.out).mono ?_; rintro e w2 ⟨rfl, o2⟩; have O2 := Lib.hid (O1.out.trans o2); clear o2))
  go_ret
  exact ⟨rfl, O2.out⟩
end
end Go.Proofs.YtleamondilmojaaDoor
