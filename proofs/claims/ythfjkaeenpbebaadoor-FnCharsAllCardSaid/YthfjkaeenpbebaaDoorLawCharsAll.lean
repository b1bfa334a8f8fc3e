/- FnCharsAll: the walk (the statement is told in the row). -/
import Derived.Test.YthfjkaeenpbebaaDoorChars
namespace Go.Proofs.YthfjkaeenpbebaaDoor
open Go.RowKit
set_option linter.unusedVariables false
set_option linter.unusedSimpArgs false
set_option linter.unnecessarySimpa false
set_option maxRecDepth 100000

theorem char_any (s : ByteArray) (k j : Int) (w : World) (ha : asc s) (hs : s.size ≤ 1000) (hk : 0 ≤ k) (hk2 : k ≤ s.size) (hj : -3000 ≤ j) (hj2 : j ≤ 3000) :
    Calls Tryd.prog 11 #[.agg #[.string s, .int .i64 k], .int .i64 j] w fun e w' => e = .returned (.int .i32 (chAt s (k + j))) ∧ Old w w' := by
  have HA := Lib.hid ha
  have hr : Hid ((runes s).length = s.size) := by unfold Hid; rw [runes_asc ha, length_nums]
  clear ha
  go_enter Tryd.func11, Tryd.ntmps11
  go_wp2_with (first
    | (go_at_call 23; refine (doc_any s k _ (by omega) hk (by rw [hr.out]; omega)).mono ?_; rintro e w2 ⟨p, rfl, o2, hp, hp2, c0, c1⟩; have O2 := Lib.hid o2; have C0 := Lib.hid c0; have C1 := Lib.hid c1; clear o2 c0 c1)
    | (go_at_call 24; refine (getchar_any p s k j w2 HA.out hs hk (by omega) hj hj2 C0.out C1.out).mono ?_; rintro e w3 ⟨rfl, rfl⟩))
  go_ret
  exact ⟨rfl, (Old.alloc _ _).trans O2.out⟩

theorem piece_nums (s : ByteArray) {m : Nat} (h : m < s.size) : nums (s.extract m (m + 1)) = [gi (nums s) m] := by
  unfold nums
  have : (s.extract m (m + 1)).data.toList = (s.data.toList.drop m).take 1 := by simp [ByteArray.data_extract, List.extract_eq_take_drop]
  rw [this, List.map_take, List.map_drop]
  have hl : m < (s.data.toList.map fun b => (b.toNat : Int)).length := by simpa using h
  rw [List.drop_eq_getElem_cons hl]
  simp [gi, List.getD, List.getElem?_eq_getElem hl]
theorem piece_asc {s : ByteArray} (ha : asc s) (i j : Nat) : asc (s.extract i j) := by
  intro k hk
  have hk2 : i + k < s.size := by rw [ByteArray.size_extract] at hk; omega
  rw [ByteArray.getElem_extract]
  exact ha (i + k) hk2
theorem piece_back {s : ByteArray} (ha : asc s) {m : Nat} (h : m < s.size) : runesBytes [gi (nums s) m] = s.extract m (m + 1) := by
  rw [← piece_nums s h]; exact runesBytes_nums (piece_asc ha _ _)
theorem piece_join (s : ByteArray) {m : Nat} (h : m < s.size) : s.extract 0 m ++ s.extract m (m + 1) = s.extract 0 (m + 1) := by
  apply ByteArray.ext
  rw [ByteArray.data_append, ByteArray.data_extract, ByteArray.data_extract, ByteArray.data_extract]
  rw [Array.extract_append_extract]
  congr 1 <;> omega
/-- A rune that was just laid in a row, as a string. -/
theorem rune_back (x : Int) (w : World) : (convert 26 9 (.slice (some ⟨w.heap.size, 0, none⟩) 1 1)).run Tryd.prog (w.alloc (.cells #[.int .i32 x] 21)) = .ok (.string (runesBytes [x])) (w.alloc (.cells #[.int .i32 x] 21)) := by
  refine runes_back (P := Tryd.prog) _ 26 9 21 _ [x] (by kernel_rfl) (by kernel_rfl) (by kernel_rfl) ⟨w.heap.size, 0, 1, rfl, by simp, by unfold maxLen; omega, by simp, fun j hj => ?_⟩
  have hj0 : j = 0 := by simpa using hj
  subst hj0
  rw [hcell0 (heap_alloc_new w _)]
  rfl

theorem ca_guard (s : ByteArray) (k : Int) (w : World) (hs : s.size ≤ 9223372036854775807) (h : ¬ (drB s k = true ∧ s.size ≤ 200)) :
    Calls Tryd.prog 3 #[.agg #[.string s, .int .i64 k]] w fun e w' => e = .returned (.bool true) ∧ Old w w' := by
  have H := Lib.hid h
  clear h
  by_cases h1 : s.size ≤ 2147483647
  · have d0 : decide (s.size ≤ 2147483647) = true := by simpa using h1
    cases h2 : drB s k
    · go_enter Tryd.func3, Tryd.ntmps3
      go_wp2_with (first
        | (go_at_call 9; refine (fits_any s k _ hs).mono ?_; rintro e w1 ⟨rfl, o1⟩; have e0 := (o1.cell (o := 0) (by simp)).trans ((hcell0 (heap_alloc_new w (.cells #[.string s, .int .i64 k] 23)) 0).trans rfl); have e1 := (o1.cell (o := 1) (by simp)).trans ((hcell0 (heap_alloc_new w (.cells #[.string s, .int .i64 k] 23)) 1).trans rfl); rw [d0]; have O1 := Lib.hid o1; clear o1)
        | (go_at_call 10; refine (right_any s k _ h1).mono ?_; rintro e w2 ⟨rfl, o2⟩; rw [h2]; have O2 := Lib.hid o2; clear o2))
      go_ret
      exact ⟨rfl, ((Old.alloc _ _).trans O1.out).trans O2.out⟩
    · have h3 : 200 < s.size := by
        have := H.out
        by_cases h4 : s.size ≤ 200
        · exact absurd ⟨h2, h4⟩ this
        · omega
      go_enter Tryd.func3, Tryd.ntmps3
      go_wp2_with (first
        | (go_at_call 9; refine (fits_any s k _ hs).mono ?_; rintro e w1 ⟨rfl, o1⟩; have e0 := (o1.cell (o := 0) (by simp)).trans ((hcell0 (heap_alloc_new w (.cells #[.string s, .int .i64 k] 23)) 0).trans rfl); have e1 := (o1.cell (o := 1) (by simp)).trans ((hcell0 (heap_alloc_new w (.cells #[.string s, .int .i64 k] 23)) 1).trans rfl); rw [d0]; have O1 := Lib.hid o1; have E0 := Lib.hid e0; have hl := World.block_lt_of_cell? w1 _ e0; clear o1)
        | (go_at_call 10; refine (right_any s k _ h1).mono ?_; rintro e w2 ⟨rfl, o2⟩; rw [h2]; have f0 := (o2.cell (o := 0) hl).trans E0.out; have O2 := Lib.hid o2; clear o2))
      go_ret
      exact ⟨rfl, ((Old.alloc _ _).trans O1.out).trans O2.out⟩
  · have d0 : decide (s.size ≤ 2147483647) = false := by simpa using h1
    go_enter Tryd.func3, Tryd.ntmps3
    go_wp2_with (go_at_call 9; refine (fits_any s k _ hs).mono ?_; rintro e w1 ⟨rfl, o1⟩; rw [d0]; have O1 := Lib.hid o1; clear o1)
    go_ret
    exact ⟨rfl, (Old.alloc _ _).trans O1.out⟩

set_option maxHeartbeats 2000000 in
theorem ca_nat (s : ByteArray) (k : Nat) (w : World) (ha : asc s) (hd : drB s k = true) (hs : s.size ≤ 200) (hk : k ≤ s.size) :
    Calls Tryd.prog 3 #[.agg #[.string s, .int .i64 k]] w fun e w' => e = .returned (.bool true) ∧ Old w w' := by
  have d0 : decide (s.size ≤ 2147483647) = true := by rw [decide_eq_true_eq]; omega
  have HA := Lib.hid ha
  have HD := Lib.hid hd
  have m1 : Hid True := trivial
  clear ha hd
  go_enter Tryd.func3, Tryd.ntmps3
  go_wp2_with (first
    | (go_at_call 9; refine (fits_any s k _ (by omega)).mono ?_; rintro e w1 ⟨rfl, o1⟩; have e0 := (o1.cell (o := 0) (by simp)).trans ((hcell0 (heap_alloc_new w (.cells #[.string s, .int .i64 k] 23)) 0).trans rfl); have e1 := (o1.cell (o := 1) (by simp)).trans ((hcell0 (heap_alloc_new w (.cells #[.string s, .int .i64 k] 23)) 1).trans rfl); rw [d0]; have O1 := Lib.hid ((Old.alloc w _).trans o1); have E0 := Lib.hid e0; have E1 := Lib.hid e1; have hl := World.block_lt_of_cell? w1 _ e0; clear o1)
    | (go_at_call 10; refine (right_any s k _ (by omega)).mono ?_; rintro e w2 ⟨rfl, o2⟩; rw [HD.out]; have f0 := (o2.cell (o := 0) hl).trans E0.out; have f1 := (o2.cell (o := 1) hl).trans E1.out; have O2 := Lib.hid (O1.out.trans o2); clear o2))
  have F0 := Lib.hid f0
  have F1 := Lib.hid f1
  have hbl : w.heap.size < w2.heap.size := World.block_lt_of_cell? w2 _ f0
  obtain ⟨b, hb⟩ : ∃ b, b = w.heap.size := ⟨_, rfl⟩
  rw [← hb] at F0 F1 hbl ⊢
  clear f0 f1 e0 e1 E0 E1 hl hb
  go_loopw [3] (fun i wr => ∃ q : Nat, q ≤ s.size ∧ i = .int .i64 q ∧ wr = w2) (fun i _ => s.size - (intOf i).toNat)
  case atStart => exact ⟨0, Nat.zero_le _, rfl, rfl⟩
  case round =>
    obtain ⟨q, hq, rfl, rfl⟩ := hrel
    have f0 := F0.out
    by_cases hqs : q < s.size
    · obtain ⟨x, hx⟩ : ∃ x, x = s[q] := ⟨_, rfl⟩
      have X0 : ∀ h0 : q < s.size, s[q]'h0 = x := fun _ => hx.symm
      clear hx
      by_cases hz : x.toNat = 0
      · have d1 : ((x.toNat : Int) == 0) = true := by rw [beq_iff_eq]; omega
        clear hz
        go_wp2_with fail
        go_ret
        exact ⟨rfl, O2.out⟩
      · have d1 : ((x.toNat : Int) == 0) = false := by rw [beq_eq_false_iff_ne]; omega
        clear hz
        go_wp2_with fail
        go_roundw
        case rel => exact ⟨q + 1, by omega, by go_num, by first | rfl | trivial⟩
        case measure => simp [intOf]; omega
    · have f1 := F1.out
      obtain ⟨w2, rfl⟩ : ∃ w2 : World, w2 = wr := ⟨_, rfl⟩
      go_wp2_with fail
      go_loopw [4, 5] (fun o i wr => ∃ m : Nat, m ≤ s.size ∧ o = .string (s.extract 0 m) ∧ i = .int .i64 (1 - (k : Int) + m) ∧ Old w2 wr) (fun _ i _ => (s.size - k - intOf i + 1).toNat)
      case atStart => exact ⟨0, Nat.zero_le _, by simp; rfl, by go_num, Old.refl _⟩
      case round =>
        obtain ⟨m, hm, rfl, rfl, hold⟩ := hrel
        have g0 := (hold.cell (o := 0) hbl).trans F0.out
        have g1 := (hold.cell (o := 1) hbl).trans F1.out
        have HO := Lib.hid hold
        clear hold f0 f1
        have z1 : (s.extract 0 m).size = m := by rw [ByteArray.size_extract]; omega
        by_cases hms : m < s.size
        · have ec : chAt s ((k : Int) + (1 - (k : Int) + m)) = gi (nums s) m := by rw [show (k : Int) + (1 - (k : Int) + m) = (m : Int) + 1 by omega, chAt_in hms, gi_nums hms]
          have EC := Lib.hid ec
          have PB := Lib.hid (piece_back HA.out hms)
          have PJ := piece_join s hms
          have z2 : (s.extract m (m + 1)).size = 1 := by rw [ByteArray.size_extract]; omega
          clear ec
          go_wp2_with (go_at_call 11; refine (char_any s k (1 - (k : Int) + m) wr HA.out (by omega) (by omega) (by omega) (by omega) (by omega)).mono ?_; rintro e w3 ⟨rfl, o3⟩; rw [EC.out]; have cv := rune_back (gi (nums s) m) w3; rw [PB.out] at cv; have O3 := Lib.hid o3; clear o3)
          go_roundw
          case rel => exact ⟨m + 1, by omega, rfl, by rw [show (1 - (k : Int) + m + 1) = 1 - (k : Int) + ((m + 1 : Nat) : Int) by omega], (HO.out.trans O3.out).then_alloc _⟩
          case measure => simp [intOf]; omega
        · have hm' : m = s.size := by omega
          subst hm'
          have e1 : chAt s ((k : Int) + ((s.size : Int) - k + 1)) = 0 := chAt_out (fun i hi => by omega)
          have e2 : chAt s ((k : Int) + -(k : Int)) = 0 := chAt_out (fun i hi => by omega)
          have EE1 := Lib.hid e1
          have EE2 := Lib.hid e2
          have ew : s.extract 0 s.size = s := ByteArray.extract_zero_size
          clear e1 e2
          go_wp2_with (first
            | (go_at_call 11; have q := m1; clear m1 q; refine (char_any s k ((s.size : Int) - k + 1) wr HA.out (by omega) (by omega) (by omega) (by omega) (by omega)).mono ?_; rintro e w3 ⟨rfl, o3⟩; rw [EE1.out]; have g0 := (o3.cell (o := 0) (Nat.lt_of_lt_of_le hbl HO.out.size)).trans g0; have g1 := (o3.cell (o := 1) (Nat.lt_of_lt_of_le hbl HO.out.size)).trans g1; have O3 := Lib.hid o3; clear o3)
            | (go_at_call 11; refine (char_any s k (-(k : Int)) w3 HA.out (by omega) (by omega) (by omega) (by omega) (by omega)).mono ?_; rintro e w4 ⟨rfl, o4⟩; rw [EE2.out]; have O4 := Lib.hid o4; clear o4))
          go_ret
          exact ⟨ret_bool (by simp), ((O2.out.trans HO.out).trans O3.out).trans O4.out⟩

theorem law_charsAll (s : ByteArray) (k : Int) (w : World) (hs : s.size ≤ 9223372036854775807) (hk : (Lit.int .i64 k).wf = true) :
    Calls Tryd.prog 3 #[.agg #[.string s, .int .i64 k]] w fun e w' => e = .returned (.bool true) ∧ Below w.heap.size w w' := by
  by_cases h : drB s k = true ∧ s.size ≤ 200
  · have hd := of_decide_eq_true h.1
    have ha := of_decide_eq_true hd.1
    obtain ⟨x, rfl⟩ := Int.eq_ofNat_of_zero_le hd.2.1
    exact ca_nat s x w ha.1 h.1 h.2 (by have := hd.2.2; omega)
  · exact ca_guard s k w hs h
end Go.Proofs.YthfjkaeenpbebaaDoor
