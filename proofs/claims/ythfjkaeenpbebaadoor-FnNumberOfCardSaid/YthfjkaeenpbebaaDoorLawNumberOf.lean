/- FnNumberOf: the walk (the statement is told in the row). -/
import Derived.Test.YthfjkaeenpbebaaDoorGetInt
namespace Go.Proofs.YthfjkaeenpbebaaDoor
open Go.RowKit
set_option linter.unusedVariables false
set_option linter.unusedSimpArgs false
set_option linter.unnecessarySimpa false
set_option maxRecDepth 100000

theorem no_guard (n : Int) (word : ByteArray) (other : Int) (w : World) (hs : word.size ≤ 140737488351232) (h : ¬ (word.size ≤ 2147483647 ∧ 0 ≤ n ∧ n ≤ 999999999 ∧ smallB word = true)) :
    Calls Tryd.prog 6 #[.int .i32 n, .string word, .int .i64 other] w fun e w' => e = .returned (.bool true) ∧ Old w w' := by
  have H := Lib.hid h
  clear h
  go_enter Tryd.func6, Tryd.ntmps6
  by_cases h1 : 2147483647 < word.size
  · go_wp2_with fail
    go_ret
    exact ⟨rfl, Old.refl _⟩
  by_cases h2 : n < 0
  · go_wp2_with fail
    go_ret
    exact ⟨rfl, Old.refl _⟩
  by_cases h3 : 999999999 < n
  · go_wp2_with fail
    go_ret
    exact ⟨rfl, Old.refl _⟩
  cases h4 : smallB word
  · go_wp2_with (go_at_call 17; refine (small_any _ _ (by omega)).mono ?_; rintro e w1 ⟨rfl, rfl⟩)
    go_ret
    exact ⟨rfl, Old.refl _⟩
  · exact absurd ⟨by omega, by omega, by omega, h4⟩ H.out

set_option maxHeartbeats 1000000 in
theorem no_nat (n : Nat) (word : ByteArray) (other : Int) (w : World) (hs : word.size ≤ 140737488351232) (hn : n ≤ 999999999) (hw : smallB word = true) (hs2 : word.size ≤ 2147483647) (he : ErrAt w) :
    Calls Tryd.prog 6 #[.int .i32 n, .string word, .int .i64 other] w fun e w' => e = .returned (.bool true) ∧ Old w w' := by
  have HE := Lib.hid he
  have m1 : Hid True := trivial
  have m2 : Hid True := trivial
  have m3 : Hid True := trivial
  clear he
  go_enter Tryd.func6, Tryd.ntmps6
  go_wp2_with (first
    | (go_at_call 17; refine (small_any _ _ hs).mono ?_; rintro e w1 ⟨rfl, rfl⟩)
    | (go_at_call 18; refine (number_any n _ hn).mono ?_; rintro e w1 ⟨s, rfl, hd, o1⟩; have O1 := Lib.hid o1; have HD := Lib.hid hd; clear o1 hd)
    | (go_at_call 19; have q := m1; clear m1 q; refine (nof_any _ other n _ (getint_num w1.heap.size 1 1 s n other _ (by omega) (by omega) ((heap_cell (heap_alloc_new w1 _) 0).trans rfl) HD.out hn)).mono ?_; rintro e w2 ⟨rfl, o2⟩; have O2 := Lib.hid (O1.out.trans ((Old.alloc w1 _).trans o2)); clear o2)
    | (go_at_call 19; have q := m2; clear m2 q; refine (nof_any _ other n _ (getint_num w2.heap.size 2 2 s n other _ (by omega) (by omega) ((heap_cell (heap_alloc_new w2 _) 0).trans rfl) HD.out hn)).mono ?_; rintro e w3 ⟨rfl, o3⟩; have O3 := Lib.hid (O2.out.trans ((Old.alloc w2 _).trans o3)); clear o3)
    | (go_at_call 19; have q := m3; clear m3 q; refine (nof_any _ other other _ (getint_word w3.heap.size 2 2 word other _ (by omega) (by omega) ((heap_cell (heap_alloc_new w3 _) 0).trans rfl) hw (by omega) (HE.out.old (O3.out.then_alloc _)))).mono ?_; rintro e w4 ⟨rfl, o4⟩; have O4 := Lib.hid (O3.out.trans ((Old.alloc w3 _).trans o4)); clear o4)
    | (go_at_call 19; refine (nof_any _ other other _ (getint_nil other _)).mono ?_; rintro e w5 ⟨rfl, o5⟩; have O5 := Lib.hid (O4.out.trans o5); clear o5))
  go_ret
  exact ⟨rfl, O5.out⟩

theorem law_numberOf (n : Int) (word : ByteArray) (other : Int) (w : World) (hn : (Lit.int .i32 n).wf = true) (hs : word.size ≤ 140737488351232) (ho : (Lit.int .i64 other).wf = true) (he : ErrAt w) :
    Calls Tryd.prog 6 #[.int .i32 n, .string word, .int .i64 other] w fun e w' => e = .returned (.bool true) ∧ Below w.heap.size w w' := by
  by_cases h : word.size ≤ 2147483647 ∧ 0 ≤ n ∧ n ≤ 999999999 ∧ smallB word = true
  · obtain ⟨x, rfl⟩ := Int.eq_ofNat_of_zero_le h.2.1
    exact no_nat x word other w hs (by omega) h.2.2.2 h.1 he
  · exact no_guard n word other w hs h
end Go.Proofs.YthfjkaeenpbebaaDoor
