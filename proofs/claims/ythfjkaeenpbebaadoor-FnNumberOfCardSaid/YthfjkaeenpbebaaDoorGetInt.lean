/- readline.GetInt. -/
import Derived.Test.YthfjkaeenpbebaaDoorNumber
import Derived.Test.YthfjkaeenpbebaaDoorAtoi
namespace Go.Proofs.YthfjkaeenpbebaaDoor
open Go.RowKit
set_option linter.unusedVariables false
set_option linter.unusedSimpArgs false
set_option linter.unnecessarySimpa false
set_option maxRecDepth 100000

/-- The variable ErrSyntax holds an error, or nil. -/
def ErrAt (w : World) : Prop := ∃ ev, w.cell? ⟨3, 0, none⟩ = some ev ∧ (ev = .nilIface ∨ ∃ te pe, ev = .iface te pe)
theorem ErrAt.old {w w' : World} (h : ErrAt w) (o : Old w w') : ErrAt w' := by
  obtain ⟨ev, h1, h2⟩ := h
  exact ⟨ev, (o.cell (World.block_lt_of_cell? w _ h1)).trans h1, h2⟩

theorem getint_num (b len c : Nat) (s : ByteArray) (n : Nat) (other : Int) (w : World) (hl : 0 < len) (hlc : len ≤ 10) (hc : w.cell? ⟨b, 0, none⟩ = some (.string s)) (hd : Dig s n) (hn : n ≤ 999999999) :
    Calls Tryd.prog 30 #[.slice (some ⟨b, 0, none⟩) len c, .int .i64 other] w fun e w' => e = .returned (.int .i64 n) ∧ Old w w' := by
  have HD := Lib.hid hd
  have h0 : ((len : Int) == 0) = false := by rw [beq_eq_false_iff_ne]; omega
  clear hd
  go_enter Tryd.func30, Tryd.ntmps30
  go_wp2_with (go_at_call 42; refine (atoi_good s (by have := HD.out.2.1; omega) n (HD.out.atoi (by omega)) w).mono ?_; rintro e w1 ⟨rfl, o1⟩; have O1 := Lib.hid o1; clear o1)
  go_ret
  exact ⟨rfl, O1.out⟩
theorem getint_word (b len c : Nat) (s : ByteArray) (other : Int) (w : World) (hl : 0 < len) (hlc : len ≤ 10) (hc : w.cell? ⟨b, 0, none⟩ = some (.string s)) (hd : smallB s = true) (hs : s.size ≤ 281474976710656) (he : ErrAt w) :
    Calls Tryd.prog 30 #[.slice (some ⟨b, 0, none⟩) len c, .int .i64 other] w fun e w' => e = .returned (.int .i64 other) ∧ Old w w' := by
  have HE := Lib.hid he
  have HB := Lib.hid (atoi_letters s.data.toList (smallB_yes hd))
  have h0 : ((len : Int) == 0) = false := by rw [beq_eq_false_iff_ne]; omega
  obtain ⟨ev, hv, hev⟩ := he
  have HV := Lib.hid hv
  have HEV := Lib.hid hev
  clear hd hv hev
  go_enter Tryd.func30, Tryd.ntmps30
  go_wp2_with (go_at_call 42; refine (atoi_bad s hs HB.out.1 HB.out.2 ev w HV.out HEV.out).mono ?_; rintro e w1 ⟨N, rfl, o1⟩; have O1 := Lib.hid o1; clear o1)
  go_ret
  exact ⟨rfl, O1.out⟩
theorem getint_nil (other : Int) (w : World) : Calls Tryd.prog 30 #[.slice none 0 0, .int .i64 other] w fun e w' => e = .returned (.int .i64 other) ∧ Old w w' := by
  go_enter Tryd.func30, Tryd.ntmps30
  go_wp2_with fail
  go_ret
  exact ⟨rfl, Old.refl _⟩
theorem nof_any (v : Value) (other r : Int) (w : World) (h : Calls Tryd.prog 30 #[v, .int .i64 other] w fun e w' => e = .returned (.int .i64 r) ∧ Old w w') :
    Calls Tryd.prog 19 #[v, .int .i64 other] w fun e w' => e = .returned (.int .i64 r) ∧ Old w w' := by
  have H := Lib.hid h
  clear h
  go_enter Tryd.func19, Tryd.ntmps19
  go_wp2_with (go_at_call 30; refine H.out.mono ?_; rintro e w1 ⟨rfl, o1⟩; have O1 := Lib.hid o1; clear o1)
  go_ret
  exact ⟨rfl, O1.out⟩
end Go.Proofs.YthfjkaeenpbebaaDoor
