/- A buffer's cursor to the left and to the right, to its line's beginning and end. -/
import Derived.Test.YtleamondilmojaaDoorBufD
import Derived.Test.YtleamondilmojaaDoorMovesG
import Derived.Test.YtleamondilmojaaDoorTextE
namespace Go.Proofs.YtleamondilmojaaDoor
open Go.RowKit
set_option linter.unusedVariables false
set_option linter.unusedSimpArgs false
set_option linter.unnecessarySimpa false
set_option maxRecDepth 100000

/-- What a step of a buffer leaves: a text, a cursor, a column. -/
def StepPost (bp lb : Nat) (l : Bs) (k : Nat) (pc : Int) (w : World) (e : Ending) (w' : World) : Prop := e = .returned (.tuple #[]) ∧ BE w' bp lb l k pc ∧ Two bp lb w w'
section
variable (bp lb : Nat) (l : Bs) (k : Nat) (pc : Int) (dv : Value) (w : World) (h : B9 w bp lb l k pc dv) (hk : k ≤ l.length) (ok : okT l)
include h hk ok
theorem cleft_any (n : Nat) (hn : n ≤ 1000000) : Calls Tryd.prog 82 #[.pointer (some ⟨bp, 0, none⟩), .int .i64 n] w (StepPost bp lb l (k - min n (lineB l k).length) pc w) := by
  have H := Lib.hid h
  have OK := Lib.hid ok
  have hm := ok.n
  have hb := lineB_le hk
  have LF0 := fun dp w' D => left_any dp l k w' D hk OK.out n hn
  obtain ⟨m, hm_⟩ : ∃ m, m = min n (lineB l k).length := ⟨_, rfl⟩
  have hmk : m ≤ k := by omega
  rw [← hm_] at LF0 ⊢
  have LF := Lib.hid LF0
  have E := Lib.hid (show (k : Int) + -(m : Int) = ((k - m : Nat) : Int) by omega)
  clear h ok hm_ LF0 hb
  go_enter Tryd.func82, Tryd.ntmps82
  go_wp2_with (first
    | (go_at_call 106; refine (doc_any bp lb l k pc dv w H.out).mono ?_; rintro e w1 ⟨dp, rfl, d1, b1, t1, n1, n2⟩; have D1 := Lib.hid d1; have B1 := Lib.hid b1; have T1 := Lib.hid t1; clear d1 b1 t1 n1 n2)
    | (go_at_call 107; refine (LF.out dp w1 D1.out).mono ?_; rintro e w2 ⟨rfl, o2⟩; have B2 := Lib.hid (B1.out.old o2); have T2 := Lib.hid (T1.out.old o2); have c2 := B2.out.c2; have f2 := B2.out.free 2; clear o2))
  go_end0
  refine ⟨rfl, ?_⟩
  have e := E.out
  rw [e]
  exact ⟨⟨_, B2.out.setC (k - m)⟩, T2.out.stored bp 2 _ (Or.inl rfl)⟩
theorem cright_any (n : Nat) (hn : n ≤ 1000000) : Calls Tryd.prog 83 #[.pointer (some ⟨bp, 0, none⟩), .int .i64 n] w (StepPost bp lb l (k + min n (lineA l k).length) pc w) := by
  have H := Lib.hid h
  have OK := Lib.hid ok
  have hm := ok.n
  have RT0 := fun dp w' D => right_any9 dp l k w' D hk OK.out n hn
  have hr := lineA_room l k
  obtain ⟨m, hm_⟩ : ∃ m, m = min n (lineA l k).length := ⟨_, rfl⟩
  have hmk : m ≤ 1000000 := by omega
  rw [← hm_] at RT0 ⊢
  have RT := Lib.hid RT0
  have E := Lib.hid (show (k : Int) + (m : Int) = ((k + m : Nat) : Int) by omega)
  clear h ok hm_ RT0 hr
  go_enter Tryd.func83, Tryd.ntmps83
  go_wp2_with (first
    | (go_at_call 106; refine (doc_any bp lb l k pc dv w H.out).mono ?_; rintro e w1 ⟨dp, rfl, d1, b1, t1, n1, n2⟩; have D1 := Lib.hid d1; have B1 := Lib.hid b1; have T1 := Lib.hid t1; clear d1 b1 t1 n1 n2)
    | (go_at_call 108; refine (RT.out dp w1 D1.out).mono ?_; rintro e w2 ⟨rfl, o2⟩; have B2 := Lib.hid (B1.out.old o2); have T2 := Lib.hid (T1.out.old o2); have c2 := B2.out.c2; have f2 := B2.out.free 2; clear o2))
  go_end0
  refine ⟨rfl, ?_⟩
  have e := E.out
  rw [e]
  exact ⟨⟨_, B2.out.setC (k + m)⟩, T2.out.stored bp 2 _ (Or.inl rfl)⟩
theorem glc_any : Calls Tryd.prog 119 #[.pointer (some ⟨bp, 0, none⟩)] w (StepPost bp lb l (k - min 1 (lineB l k).length) pc w) := by
  have H := Lib.hid h
  have OK := Lib.hid ok
  clear h ok
  go_enter Tryd.func119, Tryd.ntmps119
  go_wp2_with (go_at_call 82; refine (cleft_any bp lb l k pc dv w H.out hk OK.out 1 (by decide)).mono ?_; rintro e w1 ⟨rfl, h1⟩)
  go_end0
  exact ⟨rfl, h1⟩
theorem grc_any : Calls Tryd.prog 118 #[.pointer (some ⟨bp, 0, none⟩)] w (StepPost bp lb l (k + min 1 (lineA l k).length) pc w) := by
  have H := Lib.hid h
  have OK := Lib.hid ok
  clear h ok
  go_enter Tryd.func118, Tryd.ntmps118
  go_wp2_with (go_at_call 83; refine (cright_any bp lb l k pc dv w H.out hk OK.out 1 (by decide)).mono ?_; rintro e w1 ⟨rfl, h1⟩)
  go_end0
  exact ⟨rfl, h1⟩
theorem glb_any : Calls Tryd.prog 114 #[.pointer (some ⟨bp, 0, none⟩)] w (StepPost bp lb l (k - (lineB l k).length) pc w) := by
  have H := Lib.hid h
  have OK := Lib.hid ok
  have hn := ok.n
  have OT := Lib.hid (ok.take k)
  have e1 : min k (lineB l k).length = (lineB l k).length := Nat.min_eq_right (lineB_le hk)
  have CL0 := fun w' dv' H' => cleft_any bp lb l k pc dv' w' H' hk OK.out k (by omega)
  rw [e1] at CL0
  have CL := Lib.hid CL0
  have LT := Lib.hid (show (l.take k).length = k by rw [List.length_take]; omega)
  clear h ok CL0 e1
  go_enter Tryd.func114, Tryd.ntmps114
  go_wp2_with (first
    | (go_at_call 106; refine (doc_any bp lb l k pc dv w H.out).mono ?_; rintro e w1 ⟨dp, rfl, d1, b1, t1, n1, n2⟩; have D1 := Lib.hid d1; have B1 := Lib.hid b1; have T1 := Lib.hid t1; clear d1 b1 t1 n1 n2)
    | (go_at_call 36; refine (tb_any dp l k w1 D1.out hk OK.out).mono ?_; rintro e w2 ⟨rfl, o2⟩; have B2 := Lib.hid (B1.out.old o2); have T2 := Lib.hid (T1.out.old o2); clear o2)
    | (refine wpList_runes rfl 9 42 21 _ (tx (l.take k)) rfl rfl (by kernel_rfl) (by kernel_rfl) (by kernel_rfl) (by have := OT.out.n; rw [tx_size]; omega) ?_; intro vv w3 o3 r3 hv3 own3; have B3 := Lib.hid (B2.out.old o3); have T3 := Lib.hid (T2.out.old o3); rw [runes_tx OT.out] at hv3; obtain ⟨vb, vc, rfl⟩ := hv3; rw [List.length_map, LT.out]; clear o3 r3 own3)
    | (go_at_call 82; refine (CL.out w3 _ B3.out).mono ?_; rintro e w4 ⟨rfl, b4, t4⟩; have B4 := Lib.hid b4; have T4 := Lib.hid (T3.out.trans t4); clear b4 t4))
  go_end0
  exact ⟨rfl, B4.out, T4.out⟩
theorem gle_any : Calls Tryd.prog 113 #[.pointer (some ⟨bp, 0, none⟩)] w (StepPost bp lb l (k + (lineA l k).length) pc w) := by
  have H := Lib.hid h
  have OK := Lib.hid ok
  have hn := ok.n
  have OT := Lib.hid (ok.drop k)
  have e1 : min (l.length - k) (lineA l k).length = (lineA l k).length := Nat.min_eq_right (lineA_room l k)
  have CL0 := fun w' dv' H' => cright_any bp lb l k pc dv' w' H' hk OK.out (l.length - k) (by omega)
  rw [e1] at CL0
  have CL := Lib.hid CL0
  have LT := Lib.hid (show (l.drop k).length = l.length - k by rw [List.length_drop])
  clear h ok CL0 e1
  go_enter Tryd.func113, Tryd.ntmps113
  go_wp2_with (first
    | (go_at_call 106; refine (doc_any bp lb l k pc dv w H.out).mono ?_; rintro e w1 ⟨dp, rfl, d1, b1, t1, n1, n2⟩; have D1 := Lib.hid d1; have B1 := Lib.hid b1; have T1 := Lib.hid t1; clear d1 b1 t1 n1 n2)
    | (go_at_call 37; refine (ta_any dp l k w1 D1.out hk OK.out).mono ?_; rintro e w2 ⟨rfl, o2⟩; have B2 := Lib.hid (B1.out.old o2); have T2 := Lib.hid (T1.out.old o2); clear o2)
    | (refine wpList_runes rfl 9 42 21 _ (tx (l.drop k)) rfl rfl (by kernel_rfl) (by kernel_rfl) (by kernel_rfl) (by have := OT.out.n; rw [tx_size]; omega) ?_; intro vv w3 o3 r3 hv3 own3; have B3 := Lib.hid (B2.out.old o3); have T3 := Lib.hid (T2.out.old o3); rw [runes_tx OT.out] at hv3; obtain ⟨vb, vc, rfl⟩ := hv3; rw [List.length_map, LT.out]; clear o3 r3 own3)
    | (go_at_call 83; refine (CL.out w3 _ B3.out).mono ?_; rintro e w4 ⟨rfl, b4, t4⟩; have B4 := Lib.hid b4; have T4 := Lib.hid (T3.out.trans t4); clear b4 t4))
  go_end0
  exact ⟨rfl, B4.out, T4.out⟩
end
end Go.Proofs.YtleamondilmojaaDoor
