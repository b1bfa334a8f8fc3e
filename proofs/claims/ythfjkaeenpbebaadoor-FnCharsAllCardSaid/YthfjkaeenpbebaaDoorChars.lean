/- Signs at places counted from a cursor. -/
import Derived.Test.YthfjkaeenpbebaaDoorDoc
import Derived.LoopTactic
namespace Go.Proofs.YthfjkaeenpbebaaDoor
open Go.RowKit
set_option linter.unusedVariables false
set_option linter.unusedSimpArgs false
set_option linter.unnecessarySimpa false
set_option maxRecDepth 100000

def asciiB (s : ByteArray) : Bool := decide (asc s ∧ s.size ≤ 1000)
theorem ascii_any (s : ByteArray) (w : World) (hs : s.size ≤ 140737488351232) :
    Calls Tryd.prog 14 #[.string s] w fun e w' => e = .returned (.bool (asciiB s)) ∧ w' = w := by
  go_enter Tryd.func14, Tryd.ntmps14
  go_wp2
  go_loop [3] (fun i => ∃ k : Nat, k ≤ s.size ∧ i = .int .i64 k ∧ ∀ j (h : j < s.size), j < k → s[j].toNat < 128) (fun i => s.size - (intOf i).toNat)
  case atStart => exact ⟨0, Nat.zero_le _, rfl, fun _ _ h => absurd h (by omega)⟩
  case round =>
    obtain ⟨k, hk, rfl, hok⟩ := hrel
    have HK := Lib.hid hok
    clear hok
    by_cases hlt : k < s.size
    · by_cases hc : 128 ≤ s[k].toNat
      · go_wp2
        go_ret
        exact ⟨ret_bool (decide_eq_false (fun hh => by have := hh.1 k hlt; omega)), rfl⟩
      · go_wp2
        go_round
        case rel => exact ⟨k + 1, by omega, by go_num, fun j h hj => by
          by_cases e : j = k
          · subst e; omega
          · exact HK.out j h (by omega)⟩
        case measure => simp [intOf]; omega
    · go_wp2
      go_ret
      refine ⟨ret_bool ?_, rfl⟩
      have hall : asc s := fun j h => HK.out j h (by omega)
      unfold asciiB; simp [hall]; omega

theorem fits_any (s : ByteArray) (k : Int) (w : World) (hs : s.size ≤ 9223372036854775807) :
    Calls Tryd.prog 9 #[.agg #[.string s, .int .i64 k]] w fun e w' => e = .returned (.bool (decide (s.size ≤ 2147483647))) ∧ Old w w' := by
  by_cases h : s.size ≤ 2147483647
  · have d : decide ((s.size : Int) > 2147483647) = false := by simp; omega
    go_enter Tryd.func9, Tryd.ntmps9
    go_wp2_with fail
    go_ret
    exact ⟨ret_bool (by simp; omega), Old.alloc _ _⟩
  · go_enter Tryd.func9, Tryd.ntmps9
    go_wp2_with fail
    go_ret
    exact ⟨ret_bool (by simp; omega), Old.alloc _ _⟩

def drB (s : ByteArray) (k : Int) : Bool := decide (asciiB s = true ∧ 0 ≤ k ∧ k ≤ s.size)
theorem right_any (s : ByteArray) (k : Int) (w : World) (hs : s.size ≤ 2147483647) :
    Calls Tryd.prog 10 #[.agg #[.string s, .int .i64 k]] w fun e w' => e = .returned (.bool (drB s k)) ∧ Old w w' := by
  cases h1 : asciiB s
  · go_enter Tryd.func10, Tryd.ntmps10
    go_wp2_with (go_at_call 14; refine (ascii_any _ _ (by omega)).mono ?_; rintro e w1 ⟨rfl, rfl⟩)
    go_ret
    exact ⟨ret_bool (by simp [drB, h1]), Old.alloc _ _⟩
  · by_cases h2 : 0 ≤ k
    · go_enter Tryd.func10, Tryd.ntmps10
      go_wp2_with (go_at_call 14; refine (ascii_any _ _ (by omega)).mono ?_; rintro e w1 ⟨rfl, rfl⟩)
      go_ret
      exact ⟨ret_bool (by simp [drB, h1, h2]; try omega), Old.alloc _ _⟩
    · go_enter Tryd.func10, Tryd.ntmps10
      go_wp2_with (go_at_call 14; refine (ascii_any _ _ (by omega)).mono ?_; rintro e w1 ⟨rfl, rfl⟩)
      go_ret
      exact ⟨ret_bool (by simp [drB, h1, h2]; try omega), Old.alloc _ _⟩

theorem not_empty {u : ByteArray} (h0 : 0 < u.size) : u.toList.isEmpty = false := by
  rw [ByteArray.toList_eq]
  cases h : u.data.toList with
  | nil =>
    have h3 : u.data.toList.length = u.size := Array.length_toList
    rw [h] at h3
    simp only [List.length_nil] at h3
    omega
  | cons x l => rfl
theorem decode_any (u : ByteArray) (x : UInt8) (w : World) (h0 : 0 < u.size) (hu : u.size ≤ 140737488351232) (hx : ∀ h : 0 < u.size, u[0]'h = x) (hx2 : x.toNat < 128) :
    Calls Tryd.prog 37 #[.string u] w fun e w' => e = .returned (.tuple #[.int .i32 x.toNat, .int .i64 1]) ∧ w' = w := by
  have d1 : u.toList.isEmpty = false := not_empty h0
  have i0 : (0 : Int) < u.size := by omega
  go_enter Tryd.func37, Tryd.ntmps37
  go_wp2_with fail
  go_ret2
  exact ⟨rfl, rfl⟩

/-- The sign at place t, from 1 on; 0 beyond. -/
def chAt (s : ByteArray) (t : Int) : Int := if 1 ≤ t ∧ t ≤ s.size then gi (nums s) (t.toNat - 1) else 0
theorem chAt_in {s : ByteArray} {i : Nat} (h : i < s.size) : chAt s ((i : Int) + 1) = (s[i].toNat : Int) := by
  unfold chAt
  rw [if_pos (by omega), show ((i : Int) + 1).toNat - 1 = i by omega, gi_nums h]
theorem chAt_out {s : ByteArray} {t : Int} (h : ∀ i : Nat, i < s.size → ¬ ((i : Int) + 1 = t)) : chAt s t = 0 := by
  unfold chAt
  rw [if_neg]
  intro ⟨h1, h2⟩
  exact h (t.toNat - 1) (by omega) (by omega)
theorem sub_size (s : ByteArray) {k : Nat} (h : k ≤ s.size) : (s.extract k s.size).size = s.size - k := by rw [ByteArray.size_extract]; omega
theorem sub_sub (s : ByteArray) {k : Nat} (h : k < s.size) : (s.extract k s.size).extract 1 (s.size - k) = s.extract (k + 1) s.size := by
  rw [ByteArray.extract_extract]
  congr 1
  omega
theorem sub_head (s : ByteArray) {k : Nat} (h : k < s.size) (h0 : 0 < (s.extract k s.size).size) : (s.extract k s.size)[0]'h0 = s[k] := by
  rw [ByteArray.getElem_extract]
  rfl

set_option maxHeartbeats 1000000 in
theorem getchar_any (p : Nat) (s : ByteArray) (k j : Int) (w : World) (ha : asc s) (hs : s.size ≤ 1000) (hk : 0 ≤ k) (hk2 : k ≤ 1000) (hj : -3000 ≤ j) (hj2 : j ≤ 3000) (h0 : w.cell? ⟨p, 0, none⟩ = some (.string s)) (h1 : w.cell? ⟨p, 1, none⟩ = some (.int .i64 k)) :
    Calls Tryd.prog 24 #[.pointer (some ⟨p, 0, none⟩), .int .i64 j] w fun e w' => e = .returned (.int .i32 (chAt s (k + j))) ∧ w' = w := by
  have HA := Lib.hid ha
  clear ha
  go_enter Tryd.func24, Tryd.ntmps24
  go_wp2_with fail
  go_loopw [5, 6, 7, 8] (fun v c _ _ wr => ∃ i : Nat, i ≤ s.size ∧ v = .string (s.extract i s.size) ∧ c = .int .i64 i ∧ (∀ x : Nat, x < i → ¬ ((x : Int) + 1 = k + j)) ∧ wr = w) (fun _ c _ _ _ => s.size - (intOf c).toNat)
  case atStart => exact ⟨0, Nat.zero_le _, by rw [ByteArray.extract_zero_size], rfl, fun _ h => absurd h (by omega), rfl⟩
  case round =>
    obtain ⟨i, hi, rfl, rfl, hno, rfl⟩ := hrel
    have HN := Lib.hid hno
    clear hno
    have z := sub_size s hi
    by_cases his : i < s.size
    · have X0 : ∀ h : 0 < (s.extract i s.size).size, (s.extract i s.size)[0]'h = s[i] := fun h => sub_head s his h
      have XX := Lib.hid X0
      have ZZ := Lib.hid z
      have SS := sub_sub s his
      have CH := Lib.hid (chAt_in his)
      have HX : Hid (s[i].toNat < 128) := HA.out i his
      obtain ⟨y, hy⟩ : ∃ y, y = s[i] := ⟨_, rfl⟩
      rw [← hy] at CH HX XX
      clear X0 hy
      by_cases he : (i : Int) + 1 = k + j
      · have E := Lib.hid he
        have d1 : ((i : Int) + 1 == k + j) = true := by rw [beq_iff_eq]; exact he
        clear he
        go_wp2_with (go_at_call 37; refine (decode_any _ y wr (by rw [ZZ.out]; omega) (by rw [ZZ.out]; omega) XX.out HX.out).mono ?_; rintro e w1 ⟨rfl, rfl⟩)
        go_ret
        exact ⟨ret_int (by rw [← E.out, CH.out]), rfl⟩
      · have E := Lib.hid he
        have d1 : ((i : Int) + 1 == k + j) = false := by rw [beq_eq_false_iff_ne]; exact he
        clear he
        go_wp2_with (go_at_call 37; refine (decode_any _ y wr (by rw [ZZ.out]; omega) (by rw [ZZ.out]; omega) XX.out HX.out).mono ?_; rintro e w1 ⟨rfl, rfl⟩)
        go_roundw
        case rel => exact ⟨i + 1, by omega, rfl, by go_num, fun x hx => by
          by_cases e : x = i
          · rw [e]; exact E.out
          · exact HN.out x (by omega), by first | rfl | trivial⟩
        case measure => simp [intOf]; omega
    · have his' : i = s.size := by omega
      subst his'
      have CH := Lib.hid (chAt_out HN.out)
      go_wp2_with fail
      go_ret
      exact ⟨ret_int (by rw [CH.out]), rfl⟩
end Go.Proofs.YthfjkaeenpbebaaDoor
