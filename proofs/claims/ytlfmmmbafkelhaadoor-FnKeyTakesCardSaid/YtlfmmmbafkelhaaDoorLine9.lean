/- Contracts: laws.zzFits11, laws.line9, laws.short9. -/
import Derived.Test.YtlfmmmbafkelhaaDoorNew
import Derived.Test.YtlfmmmbafkelhaaDoorAsc
namespace Go.Proofs.YtlfmmmbafkelhaaDoor
open Go.RowKit
set_option linter.unusedVariables false
set_option linter.unusedSimpArgs false
set_option maxRecDepth 100000

theorem nums_extract (s : ByteArray) (i j : Nat) : nums (s.extract i j) = ((nums s).drop i).take (j - i) := by
  unfold nums
  have : (s.extract i j).data.toList = (s.data.toList.drop i).take (j - i) := by simp [ByteArray.data_extract, List.extract_eq_take_drop]
  rw [this, List.map_take, List.map_drop]
theorem asc_extract {s : ByteArray} (h : asc s) (i j : Nat) : asc (s.extract i j) := by
  intro k hk
  have hk2 : i + k < s.size := by rw [ByteArray.size_extract] at hk; omega
  rw [ByteArray.getElem_extract]
  exact h (i + k) hk2
theorem back_extract {s : ByteArray} (h : asc s) (i j : Nat) : runesBytes (((nums s).drop i).take (j - i)) = s.extract i j := by
  rw [← nums_extract]; exact runesBytes_nums (asc_extract h i j)

theorem ret2_strb {a b : ByteArray} {c : Bool} (h : a = b) : Ending.returned (.tuple #[.string b, .bool c]) = .returned (.tuple #[.string a, .bool c]) := by rw [h]
/-- What laws.line9 tells. -/
def ln9 (s : ByteArray) (k : Int) : Bool := decide (asc9 s = true ∧ 0 ≤ k ∧ k ≤ s.size)
theorem fits_any (s : ByteArray) (k : Int) (w : World) :
    Calls Tryd.prog 12 #[.agg #[.string s, .int .i64 k]] w fun e w' => e = .returned (.bool (decide (s.size ≤ 2147483647))) ∧ Old w w' := by
  by_cases h : s.size ≤ 2147483647
  · have d : decide ((s.size : Int) > 2147483647) = false := by simp; omega
    go_enter Tryd.func12, Tryd.ntmps12
    go_wp2_with fail
    go_ret
    exact ⟨ret_bool (by simp; omega), Old.alloc _ _⟩
  · go_enter Tryd.func12, Tryd.ntmps12
    go_wp2_with fail
    go_ret
    exact ⟨ret_bool (by simp; omega), Old.alloc _ _⟩
theorem line9_any (s : ByteArray) (k : Int) (w : World) (hs : s.size ≤ 2147483647) (hk : (Lit.int .i64 k).wf = true) :
    Calls Tryd.prog 13 #[.agg #[.string s, .int .i64 k]] w fun e w' => e = .returned (.bool (ln9 s k)) ∧ Old w w' := by
  cases h1 : asc9 s
  · go_enter Tryd.func13, Tryd.ntmps13
    go_wp2_with (go_at_call 30; refine (ascii9_any _ _ (by omega)).mono ?_; rintro e w1 ⟨rfl, rfl⟩)
    go_ret
    exact ⟨ret_bool (by simp [ln9, h1]), Old.alloc _ _⟩
  · by_cases h2 : 0 ≤ k
    · go_enter Tryd.func13, Tryd.ntmps13
      go_wp2_with (go_at_call 30; refine (ascii9_any _ _ (by omega)).mono ?_; rintro e w1 ⟨rfl, rfl⟩)
      go_ret
      exact ⟨ret_bool (by simp [ln9, h1, h2]; try omega), Old.alloc _ _⟩
    · go_enter Tryd.func13, Tryd.ntmps13
      go_wp2_with (go_at_call 30; refine (ascii9_any _ _ (by omega)).mono ?_; rintro e w1 ⟨rfl, rfl⟩)
      go_ret
      exact ⟨ret_bool (by simp [ln9, h1, h2]; try omega), Old.alloc _ _⟩

theorem own_zero {w : World} {b0 : Nat} {e : TypeId} {n : Nat} {v : Value} {xs : List Value} (h : w.ownsRow b0 e 1 v n xs) : w.ownsRow 0 e 1 v n xs := by
  refine ⟨h.1, ?_⟩
  rcases h.2 with h | ⟨g, cap, cur, hv, h1, h2⟩
  · exact .inl h
  · exact .inr ⟨g, cap, cur, hv, Nat.zero_le _, h2⟩

/-- A line that has been set. -/
theorem set_pb {w w1 : World} {p b c : Nat} {a : Int} {l : List Int} {kv : Value} {bv0 av0 : Value} (hp : PB w p bv0 av0 kv) (hL : LB w b c l) (hne : p ≠ b) (o : Old w w1) :
    PB ((w1.setCell ⟨p, 0, none⟩ (.slice (some ⟨b, 0, none⟩) l.length c)).setCell ⟨p, 1, none⟩ (.int .i64 a)) p (.slice (some ⟨b, 0, none⟩) l.length c) (.int .i64 a) kv ∧
      LB ((w1.setCell ⟨p, 0, none⟩ (.slice (some ⟨b, 0, none⟩) l.length c)).setCell ⟨p, 1, none⟩ (.int .i64 a)) b c l :=
  ⟨((hp.old o).set0 _).set1 _, ((hL.old o).other (Ne.symm hne) _).other (Ne.symm hne) _⟩


/-- What laws.short9 tells. -/
def sh9 (s : ByteArray) (k : Int) : Bool := decide (ln9 s k = true ∧ s.size ≤ 100)
theorem short9_any (s : ByteArray) (k : Int) (w : World) (hs : s.size ≤ 2147483647) (hk : (Lit.int .i64 k).wf = true) :
    Calls Tryd.prog 16 #[.agg #[.string s, .int .i64 k]] w fun e w' => e = .returned (.bool (sh9 s k)) ∧ Old w w' := by
  cases h1 : ln9 s k
  · have L := Lib.hid h1
    clear h1
    go_enter Tryd.func16, Tryd.ntmps16
    go_wp2_with (go_at_call 13; refine (line9_any s k _ hs hk).mono ?_; rintro e w1 ⟨rfl, o1⟩; rw [L.out]; have O1 := Lib.hid ((Old.alloc w _).trans o1); clear o1)
    go_ret
    exact ⟨ret_bool (by simp [sh9, L.out]), O1.out⟩
  · have L := Lib.hid h1
    clear h1
    go_enter Tryd.func16, Tryd.ntmps16
    go_wp2_with (go_at_call 13; refine (line9_any s k _ hs hk).mono ?_; rintro e w1 ⟨rfl, o1⟩; rw [L.out]; have g10 : w1.cell? ⟨w.heap.size, 0, none⟩ = some (.string s) := (o1.cell (by simp)).trans ((World.cell?_alloc_mark w #[.string s, .int .i64 k] _ (0, 0) 0).trans rfl); have O1 := Lib.hid ((Old.alloc w _).trans o1); clear o1)
    go_ret
    exact ⟨ret_bool (by simp [sh9, L.out]; try omega), O1.out⟩
end Go.Proofs.YtlfmmmbafkelhaaDoor
