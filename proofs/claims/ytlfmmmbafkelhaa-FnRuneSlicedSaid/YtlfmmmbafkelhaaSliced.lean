/- Contracts: laws.line9, impl.RuneSliced. -/
import Derived.Test.YtlfmmmbafkelhaaRuneSlice
import Derived.Test.YtlfmmmbafkelhaaAsc
namespace Go.Proofs.Ytlfmmmbafkelhaa
open Go.RowKit
set_option linter.unusedVariables false
set_option linter.unusedSimpArgs false
set_option maxRecDepth 100000

theorem nums_extract (s : ByteArray) (i j : Nat) : nums (s.extract i j) = ((nums s).drop i).take (j - i) := by
  unfold nums
  have : (s.extract i j).data.toList = (s.data.toList.drop i).take (j - i) := by simp [ByteArray.data_extract, List.extract_eq_take_drop]
  rw [this, List.map_take, List.map_drop]
theorem asc_extract {s : ByteArray} (h : asc s) (i j : Nat) : asc (s.extract i j) := by
  intro k hk
  have hk2 : i + k < s.size := by rw [ByteArray.size_extract] at hk; omega
  rw [ByteArray.getElem_extract]
  exact h (i + k) hk2
theorem back_extract {s : ByteArray} (h : asc s) (i j : Nat) : runesBytes (((nums s).drop i).take (j - i)) = s.extract i j := by
  rw [← nums_extract]; exact runesBytes_nums (asc_extract h i j)

theorem ret2_strb {a b : ByteArray} {c : Bool} (h : a = b) : Ending.returned (.tuple #[.string b, .bool c]) = .returned (.tuple #[.string a, .bool c]) := by rw [h]
/-- What laws.line9 tells. -/
def ln9 (s : ByteArray) (k : Int) : Bool := decide (asc9 s = true ∧ 0 ≤ k ∧ k ≤ s.size)
theorem fits_any (s : ByteArray) (k : Int) (w : World) :
    Calls Try.prog 4 #[.agg #[.string s, .int .i64 k]] w fun e w' => e = .returned (.bool (decide (s.size ≤ 2147483647))) ∧ Old w w' := by
  by_cases h : s.size ≤ 2147483647
  · have d : decide ((s.size : Int) > 2147483647) = false := by simp; omega
    go_enter Try.func4, Try.ntmps4
    go_wp2_with fail
    go_ret
    exact ⟨ret_bool (by simp; omega), Old.alloc _ _⟩
  · go_enter Try.func4, Try.ntmps4
    go_wp2_with fail
    go_ret
    exact ⟨ret_bool (by simp; omega), Old.alloc _ _⟩
theorem line9_any (s : ByteArray) (k : Int) (w : World) (hs : s.size ≤ 2147483647) (hk : (Lit.int .i64 k).wf = true) :
    Calls Try.prog 5 #[.agg #[.string s, .int .i64 k]] w fun e w' => e = .returned (.bool (ln9 s k)) ∧ Old w w' := by
  cases h1 : asc9 s
  · go_enter Try.func5, Try.ntmps5
    go_wp2_with (go_at_call 7; refine (ascii9_any _ _ (by omega)).mono ?_; rintro e w1 ⟨rfl, rfl⟩)
    go_ret
    exact ⟨ret_bool (by simp [ln9, h1]), Old.alloc _ _⟩
  · by_cases h2 : 0 ≤ k
    · go_enter Try.func5, Try.ntmps5
      go_wp2_with (go_at_call 7; refine (ascii9_any _ _ (by omega)).mono ?_; rintro e w1 ⟨rfl, rfl⟩)
      go_ret
      exact ⟨ret_bool (by simp [ln9, h1, h2]; try omega), Old.alloc _ _⟩
    · go_enter Try.func5, Try.ntmps5
      go_wp2_with (go_at_call 7; refine (ascii9_any _ _ (by omega)).mono ?_; rintro e w1 ⟨rfl, rfl⟩)
      go_ret
      exact ⟨ret_bool (by simp [ln9, h1, h2]; try omega), Old.alloc _ _⟩

theorem own_zero {w : World} {b0 : Nat} {e : TypeId} {n : Nat} {v : Value} {xs : List Value} (h : w.ownsRow b0 e 1 v n xs) : w.ownsRow 0 e 1 v n xs := by
  refine ⟨h.1, ?_⟩
  rcases h.2 with h | ⟨g, cap, cur, hv, h1, h2⟩
  · exact .inl h
  · exact .inr ⟨g, cap, cur, hv, Nat.zero_le _, h2⟩

/-- A line that has been set. -/
theorem set_pb {w w1 : World} {p b c : Nat} {a : Int} {l : List Int} {kv : Value} {bv0 av0 : Value} (hp : PB w p bv0 av0 kv) (hL : LB w b c l) (hne : p ≠ b) (o : Old w w1) :
    PB ((w1.setCell ⟨p, 0, none⟩ (.slice (some ⟨b, 0, none⟩) l.length c)).setCell ⟨p, 1, none⟩ (.int .i64 a)) p (.slice (some ⟨b, 0, none⟩) l.length c) (.int .i64 a) kv ∧
      LB ((w1.setCell ⟨p, 0, none⟩ (.slice (some ⟨b, 0, none⟩) l.length c)).setCell ⟨p, 1, none⟩ (.int .i64 a)) b c l :=
  ⟨((hp.old o).set0 _).set1 _, ((hL.old o).other (Ne.symm hne) _).other (Ne.symm hne) _⟩

set_option maxHeartbeats 1000000 in
theorem runeSliced_fwd (s : ByteArray) (k m : Nat) (w : World) (ha : asc s) (hs : s.size ≤ 300) (hk : k + m ≤ s.size) (hm : 0 < m) :
    Calls Try.prog 6 #[.agg #[.string s, .int .i64 k], .int .i64 m] w fun e w' => e = .returned (.tuple #[.string (s.extract k (k + m)), .bool true]) ∧ Old w w' := by
  have hr : (runes s).length = s.size := by rw [runes_asc ha, length_nums]
  have HA := Lib.hid ha
  have HR := Lib.hid hr
  have d1 : decide ((k : Int) < 0) = false := by simp
  have d2 : decide ((k : Int) > (runes s).length) = false := by simp; omega
  have e1 : IntKind.i64.wrap ((k : Int) + m) = (k : Int) + m := IntWalk.i64_in _ (by omega)
  have d3 : decide ((k : Int) + m < 0) = false := by simp; omega
  have d4 : decide ((k : Int) + m > (runes s).length) = false := by simp; omega
  have d5 : decide ((m : Int) > (runes s).length) = false := by simp; omega
  have d6 : decide ((m : Int) < -((runes s).length : Int)) = false := by rw [decide_eq_false_iff_not]; omega
  have e6 : IntKind.i64.wrap (-((runes s).length : Int)) = -((runes s).length : Int) := IntWalk.i64_in _ (by omega)
  clear ha hr
  go_enter Try.func6, Try.ntmps6
  go_wp2_with (first
    | (refine wpList_runes rfl 9 29 21 _ s rfl rfl (by kernel_rfl) (by kernel_rfl) (by kernel_rfl) (by omega) ?_; intro v w1 o1 r1 hv1 own1
       have g1 : w1.cell? ⟨w.heap.size, 1, none⟩ = some (.int .i64 k) := (o1.cell (by simp)).trans ((World.cell?_alloc_mark w #[.string s, .int .i64 k] _ (0, 0) 1).trans rfl)
       have hl1 : w.heap.size < w1.heap.size := by have := o1.size; simp at this; omega
       have O1 := Lib.hid ((Old.alloc w _).trans o1); have W1 := Lib.hid own1; clear o1 r1 own1; obtain ⟨vb, vc, rfl⟩ := hv1)
    | (go_at_call 8; refine (new_any { data := #[] } 80 _ _ _ _ w1 (by decide) ⟨_, rfl⟩ ⟨_, rfl⟩ ⟨_, rfl⟩ ⟨_, rfl⟩).mono ?_; rintro e w2 ⟨p, rfl, o2, hp2, hn2⟩
       have g2 := (o2.cell hl1).trans g1
       have O2 := Lib.hid o2; have N2 := Lib.hid hn2.pb; have hvb := Lib.hid (own_lt W1.out)
       clear hn2 o2 g1)
    | (go_at_call 9; refine (swi_any p _ _ _ _ w2 N2.out.c0 N2.out.c1 (N2.out.free 0) (N2.out.free 1) ⟨vb, _, vc, rfl⟩).mono ?_; rintro e w4 ⟨rfl, w3, o3, hw4⟩
       have PS : Hid (PB w4 p (.slice (some ⟨vb, 0, none⟩) (runes s).length vc) (.int .i64 k) (.slice none 0 0) ∧ LB w4 vb vc (runes s)) := by
         rw [hw4]; exact set_pb N2.out (LB.old (own_zero W1.out) O2.out) (by have := hvb.out; omega) o3
       have O4 : Hid (Old w w4) := by
         rw [hw4]; exact ((((O1.out.trans O2.out).trans o3).stored (by simp; omega) _).stored (by simp; omega) _)
       clear hw4 o3 g2)
    | (go_at_call 10; refine (rslice_fwd p vb vc k m (runes s) _ w4 PS.out.1 PS.out.2 (by have := HR.out; omega) (by have := HR.out; omega) hm).mono ?_; rintro e w5 ⟨v5, rfl, o5, r5⟩
       have cv := runes_back (P := Try.prog) w5 29 9 21 v5 _ (by kernel_rfl) (by kernel_rfl) (by kernel_rfl) r5
       have O5 := Lib.hid (O4.out.trans o5)
       clear o5 r5))
  all_goals have hR := HR.out
  all_goals try (exfalso; omega)
  go_ret2
  have hb : runesBytes (List.take m (List.drop k (runes s))) = s.extract k (k + m) := by
    rw [runes_asc HA.out]; have := back_extract HA.out k (k + m); rw [Nat.add_sub_cancel_left] at this; exact this
  exact ⟨ret2_strb hb.symm, O5.out⟩

set_option maxHeartbeats 1000000 in
theorem runeSliced_bwd (s : ByteArray) (k m : Nat) (w : World) (ha : asc s) (hs : s.size ≤ 300) (hk : k ≤ s.size) (hmk : m ≤ k) (hm : 0 < m) :
    Calls Try.prog 6 #[.agg #[.string s, .int .i64 k], .int .i64 (-(m : Int))] w fun e w' => e = .returned (.tuple #[.string (s.extract (k - m) k), .bool true]) ∧ Old w w' := by
  have hr : (runes s).length = s.size := by rw [runes_asc ha, length_nums]
  have HA := Lib.hid ha
  have HR := Lib.hid hr
  have d1 : decide ((k : Int) < 0) = false := by simp
  have d2 : decide ((k : Int) > (runes s).length) = false := by simp; omega
  have e1 : IntKind.i64.wrap ((k : Int) + -(m : Int)) = (k : Int) + -(m : Int) := IntWalk.i64_in _ (by omega)
  have d3 : decide ((k : Int) + -(m : Int) < 0) = false := by rw [decide_eq_false_iff_not]; omega
  have d4 : decide ((k : Int) + -(m : Int) > (runes s).length) = false := by rw [decide_eq_false_iff_not]; omega
  have d5 : decide (-(m : Int) > (runes s).length) = false := by rw [decide_eq_false_iff_not]; omega
  have d6 : decide (-(m : Int) < -((runes s).length : Int)) = false := by rw [decide_eq_false_iff_not]; omega
  have e6 : IntKind.i64.wrap (-((runes s).length : Int)) = -((runes s).length : Int) := IntWalk.i64_in _ (by omega)
  clear ha hr
  go_enter Try.func6, Try.ntmps6
  go_wp2_with (first
    | (refine wpList_runes rfl 9 29 21 _ s rfl rfl (by kernel_rfl) (by kernel_rfl) (by kernel_rfl) (by omega) ?_; intro v w1 o1 r1 hv1 own1
       have g1 : w1.cell? ⟨w.heap.size, 1, none⟩ = some (.int .i64 k) := (o1.cell (by simp)).trans ((World.cell?_alloc_mark w #[.string s, .int .i64 k] _ (0, 0) 1).trans rfl)
       have hl1 : w.heap.size < w1.heap.size := by have := o1.size; simp at this; omega
       have O1 := Lib.hid ((Old.alloc w _).trans o1); have W1 := Lib.hid own1; clear o1 r1 own1; obtain ⟨vb, vc, rfl⟩ := hv1)
    | (go_at_call 8; refine (new_any { data := #[] } 80 _ _ _ _ w1 (by decide) ⟨_, rfl⟩ ⟨_, rfl⟩ ⟨_, rfl⟩ ⟨_, rfl⟩).mono ?_; rintro e w2 ⟨p, rfl, o2, hp2, hn2⟩
       have g2 := (o2.cell hl1).trans g1
       have O2 := Lib.hid o2; have N2 := Lib.hid hn2.pb; have hvb := Lib.hid (own_lt W1.out)
       clear hn2 o2 g1)
    | (go_at_call 9; refine (swi_any p _ _ _ _ w2 N2.out.c0 N2.out.c1 (N2.out.free 0) (N2.out.free 1) ⟨vb, _, vc, rfl⟩).mono ?_; rintro e w4 ⟨rfl, w3, o3, hw4⟩
       have PS : Hid (PB w4 p (.slice (some ⟨vb, 0, none⟩) (runes s).length vc) (.int .i64 k) (.slice none 0 0) ∧ LB w4 vb vc (runes s)) := by
         rw [hw4]; exact set_pb N2.out (LB.old (own_zero W1.out) O2.out) (by have := hvb.out; omega) o3
       have O4 : Hid (Old w w4) := by
         rw [hw4]; exact ((((O1.out.trans O2.out).trans o3).stored (by simp; omega) _).stored (by simp; omega) _)
       clear hw4 o3 g2)
    | (go_at_call 10; refine (rslice_bwd p vb vc k m (runes s) _ w4 PS.out.1 PS.out.2 hmk (by have := HR.out; omega) (by have := HR.out; omega) hm).mono ?_; rintro e w5 ⟨v5, rfl, o5, r5⟩
       have cv := runes_back (P := Try.prog) w5 29 9 21 v5 _ (by kernel_rfl) (by kernel_rfl) (by kernel_rfl) r5
       have O5 := Lib.hid (O4.out.trans o5)
       clear o5 r5))
  all_goals have hR := HR.out
  all_goals try (exfalso; omega)
  go_ret2
  have hb : runesBytes (List.take m (List.drop (k - m) (runes s))) = s.extract (k - m) k := by
    rw [runes_asc HA.out]; have := back_extract HA.out (k - m) k; rw [Nat.sub_sub_self hmk] at this; exact this
  exact ⟨ret2_strb hb.symm, O5.out⟩

end Go.Proofs.Ytlfmmmbafkelhaa
