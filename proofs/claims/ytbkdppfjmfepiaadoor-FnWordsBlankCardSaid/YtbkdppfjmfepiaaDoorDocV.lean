/- A document's words by separators, as texts. (Printed by mkdocu.py out of XDocX.) -/
import Derived.Test.YtbkdppfjmfepiaaDoorDocU
namespace Go.Proofs.YtbkdppfjmfepiaaDoor
open Go.RowKit
set_option linter.unusedVariables false
set_option linter.unusedSimpArgs false
set_option linter.unnecessarySimpa false
set_option maxRecDepth 100000

section
variable (p : Nat) (l : Bs) (k : Nat) (S : Bs) (w : World) (h : DP w p l k) (hk : k ≤ l.length) (ok : okT l) (okS : okT S) (h0S : 0 < S.length)
include h hk ok okS h0S
theorem wbu_any : Calls Tryd.prog 20 #[.pointer (some ⟨p, 0, none⟩), .string (tx S)] w fun e w' => e = .returned (.string (tx ((l.take k).drop (wS (setP S false) (l.take k))))) ∧ Old w w' := by
  have H := Lib.hid h
  have OK := Lib.hid ok
  have hn := (ok.take k).n
  have TT := fun w' (o : Old w w') => tb_any p l k w' (H.out.old o) hk OK.out
  have FF := fun w' (o : Old w w') => fsu_any p l k S w' (H.out.old o) hk OK.out okS h0S
  clear h ok okS
  obtain ⟨m, hm⟩ : ∃ m, m = l.take k := ⟨_, rfl⟩
  rw [← hm] at hn TT FF ⊢
  have hle := wS_le (setP S false) m
  have TB := Lib.hid TT
  have FB := Lib.hid FF
  clear TT FF hm
  generalize wS (setP S false) m = q at hle FB ⊢
  have hs : (tx m).size = m.length := tx_size m
  have e3 : (tx m).extract q m.length = tx (m.drop q) := ext_post
  have i0 : (0 : Int) ≤ q := by omega
  have i1 : (q : Int) ≤ m.length := by omega
  go_enter Tryd.func20, Tryd.ntmps20
  go_wp2_with (first
    | (go_at_call 33; refine (TB.out _ (Old.refl _)).mono ?_; rintro e w1 ⟨rfl, o1⟩; have O1 := Lib.hid o1; clear o1)
    | (go_at_call 48; refine (FB.out _ O1.out).mono ?_; rintro e w2 ⟨rfl, o2⟩; have O2 := Lib.hid (O1.out.trans o2); clear o2))
  go_ret
  exact ⟨rfl, O2.out⟩
theorem wbsu_any : Calls Tryd.prog 22 #[.pointer (some ⟨p, 0, none⟩), .string (tx S)] w fun e w' => e = .returned (.string (tx ((l.take k).drop (wSS (setP S false) (setP S true) (l.take k))))) ∧ Old w w' := by
  have H := Lib.hid h
  have OK := Lib.hid ok
  have hn := (ok.take k).n
  have TT := fun w' (o : Old w w') => tb_any p l k w' (H.out.old o) hk OK.out
  have FF := fun w' (o : Old w w') => fssu_any p l k S w' (H.out.old o) hk OK.out okS h0S
  clear h ok okS
  obtain ⟨m, hm⟩ : ∃ m, m = l.take k := ⟨_, rfl⟩
  rw [← hm] at hn TT FF ⊢
  have hle := wSS_le (setP S false) (setP S true) m
  have TB := Lib.hid TT
  have FB := Lib.hid FF
  clear TT FF hm
  generalize wSS (setP S false) (setP S true) m = q at hle FB ⊢
  have hs : (tx m).size = m.length := tx_size m
  have e3 : (tx m).extract q m.length = tx (m.drop q) := ext_post
  have i0 : (0 : Int) ≤ q := by omega
  have i1 : (q : Int) ≤ m.length := by omega
  go_enter Tryd.func22, Tryd.ntmps22
  go_wp2_with (first
    | (go_at_call 33; refine (TB.out _ (Old.refl _)).mono ?_; rintro e w1 ⟨rfl, o1⟩; have O1 := Lib.hid o1; clear o1)
    | (go_at_call 50; refine (FB.out _ O1.out).mono ?_; rintro e w2 ⟨rfl, o2⟩; have O2 := Lib.hid (O1.out.trans o2); clear o2))
  go_ret
  exact ⟨rfl, O2.out⟩
theorem wau_any : Calls Tryd.prog 21 #[.pointer (some ⟨p, 0, none⟩), .string (tx S)] w fun e w' => e = .returned (.string (tx ((l.drop k).take (wE (setP S false) (l.drop k))))) ∧ Old w w' := by
  have H := Lib.hid h
  have OK := Lib.hid ok
  have hn := (ok.drop k).n
  have TT := fun w' (o : Old w w') => ta_any p l k w' (H.out.old o) hk OK.out
  have FF := fun w' (o : Old w w') => feu_any p l k S w' (H.out.old o) hk OK.out okS h0S
  clear h ok okS
  obtain ⟨m, hm⟩ : ∃ m, m = l.drop k := ⟨_, rfl⟩
  rw [← hm] at hn TT FF ⊢
  have hle := wE_le (setP S false) m
  have TB := Lib.hid TT
  have FB := Lib.hid FF
  clear TT FF hm
  generalize wE (setP S false) m = q at hle FB ⊢
  have hs : (tx m).size = m.length := tx_size m
  have e3 : (tx m).extract 0 q = tx (m.take q) := ext_pre
  have i0 : (0 : Int) ≤ q := by omega
  have i1 : (q : Int) ≤ m.length := by omega
  go_enter Tryd.func21, Tryd.ntmps21
  go_wp2_with (first
    | (go_at_call 34; refine (TB.out _ (Old.refl _)).mono ?_; rintro e w1 ⟨rfl, o1⟩; have O1 := Lib.hid o1; clear o1)
    | (go_at_call 49; refine (FB.out _ O1.out).mono ?_; rintro e w2 ⟨rfl, o2⟩; have O2 := Lib.hid (O1.out.trans o2); clear o2))
  go_ret
  exact ⟨rfl, O2.out⟩
theorem wasu_any : Calls Tryd.prog 23 #[.pointer (some ⟨p, 0, none⟩), .string (tx S)] w fun e w' => e = .returned (.string (tx ((l.drop k).take (wES (setP S false) (setP S true) (l.drop k))))) ∧ Old w w' := by
  have H := Lib.hid h
  have OK := Lib.hid ok
  have hn := (ok.drop k).n
  have TT := fun w' (o : Old w w') => ta_any p l k w' (H.out.old o) hk OK.out
  have FF := fun w' (o : Old w w') => fesu_any p l k S w' (H.out.old o) hk OK.out okS h0S
  clear h ok okS
  obtain ⟨m, hm⟩ : ∃ m, m = l.drop k := ⟨_, rfl⟩
  rw [← hm] at hn TT FF ⊢
  have hle := wES_le (setP S false) (setP S true) m
  have TB := Lib.hid TT
  have FB := Lib.hid FF
  clear TT FF hm
  generalize wES (setP S false) (setP S true) m = q at hle FB ⊢
  have hs : (tx m).size = m.length := tx_size m
  have e3 : (tx m).extract 0 q = tx (m.take q) := ext_pre
  have i0 : (0 : Int) ≤ q := by omega
  have i1 : (q : Int) ≤ m.length := by omega
  go_enter Tryd.func23, Tryd.ntmps23
  go_wp2_with (first
    | (go_at_call 34; refine (TB.out _ (Old.refl _)).mono ?_; rintro e w1 ⟨rfl, o1⟩; have O1 := Lib.hid o1; clear o1)
    | (go_at_call 51; refine (FB.out _ O1.out).mono ?_; rintro e w2 ⟨rfl, o2⟩; have O2 := Lib.hid (O1.out.trans o2); clear o2))
  go_ret
  exact ⟨rfl, O2.out⟩
end
end Go.Proofs.YtbkdppfjmfepiaaDoor
