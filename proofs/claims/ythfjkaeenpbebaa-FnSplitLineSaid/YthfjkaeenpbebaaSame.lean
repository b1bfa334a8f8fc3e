/- Contracts: laws.ascii9, laws.upper9, impl.SameRunes. -/
import Derived.Test.YthfjkaeenpbebaaFold
namespace Go.Proofs.Ythfjkaeenpbebaa
open Go.RowKit
set_option linter.unusedVariables false
set_option linter.unusedSimpArgs false
set_option maxRecDepth 100000

/-- What laws.ascii9 tells. -/
def asc9 (s : ByteArray) : Bool := decide (asc s ∧ s.size ≤ 300)
theorem asc9_no {s : ByteArray} (k : Nat) (h : k < s.size) (hc : 128 ≤ s[k].toNat) : asc9 s = false := decide_eq_false (fun hh => by have := hh.1 k h; omega)
theorem asc9_yes {s : ByteArray} (h : asc s) : asc9 s = decide (s.size ≤ 300) := by unfold asc9; simp [h]
theorem asc9_iff {s : ByteArray} : asc9 s = true ↔ asc s ∧ s.size ≤ 300 := by unfold asc9; simp

theorem ascii9_any (s : ByteArray) (w : World) (hs : s.size ≤ 140737488351232) :
    Calls Try.prog 10 #[.string s] w fun e w' => e = .returned (.bool (asc9 s)) ∧ w = w' := by
  go_enter Try.func10, Try.ntmps10
  go_wp2
  go_loop [3, 6] (fun _ i => ∃ k : Nat, k ≤ s.size ∧ i = .int .i64 k ∧ ∀ j (h : j < s.size), j < k → s[j].toNat < 128) (fun _ i => s.size - (intOf i).toNat)
  case atStart => exact ⟨0, Nat.zero_le _, rfl, fun _ _ h => absurd h (by omega)⟩
  case round =>
    obtain ⟨k, hk, rfl, hall⟩ := hrel
    have Hall := Lib.hid hall
    clear hall
    by_cases hlt : k < s.size
    · go_wp2
      · go_ret
        exact ⟨ret_bool (asc9_no k hlt (by omega)), rfl⟩
      · go_round
        case rel => exact ⟨k + 1, by omega, by go_num, fun j hj hjk => by
          by_cases e : j = k
          · subst e; omega
          · exact Hall.out j hj (by omega)⟩
        case measure => simp [intOf]; omega
    · go_wp2
      go_ret
      have : asc s := fun j hj => Hall.out j hj (by omega)
      exact ⟨ret_bool (by rw [asc9_yes this]; simp; omega), rfl⟩

/-- A code point of ASCII as a great letter. -/
def upN (x : Int) : Int := if 97 ≤ x ∧ x ≤ 122 then x - 32 else x
def up8 (c : UInt8) : UInt8 := if 97 ≤ c.toNat ∧ c.toNat ≤ 122 then c - 32 else c
def upB (s : ByteArray) : ByteArray := ⟨s.data.map up8⟩
theorem size_upB (s : ByteArray) : (upB s).size = s.size := by
  show (s.data.map up8).size = s.data.size
  simp
theorem up8_toNat (c : UInt8) : ((up8 c).toNat : Int) = upN c.toNat := by
  unfold up8 upN
  have hc := c.toNat_lt
  by_cases h : 97 ≤ c.toNat ∧ c.toNat ≤ 122
  · rw [if_pos h, if_pos (by omega)]
    rw [UInt8.toNat_sub_of_le _ _ (by rw [UInt8.le_iff_toNat_le]; show 32 ≤ c.toNat; omega)]
    show ((c.toNat - 32 : Nat) : Int) = _
    omega
  · rw [if_neg h, if_neg (by omega)]
theorem nums_upB (s : ByteArray) : nums (upB s) = (nums s).map upN := by
  simp only [nums, upB, Array.toList_map, List.map_map]
  apply List.map_congr_left
  intro c _
  exact up8_toNat c
theorem gi_upB {s : ByteArray} {k : Nat} (h : k < s.size) : gi (nums (upB s)) k = upN (gi (nums s) k) := by
  have h1 : k < (nums (upB s)).length := by rw [length_nums, size_upB]; exact h
  have h2 : k < (nums s).length := by rw [length_nums]; exact h
  rw [gi_lt h1, gi_lt h2]
  simp [nums_upB]
theorem nums_lt {s : ByteArray} (k : Nat) : 0 ≤ gi (nums s) k ∧ gi (nums s) k < 256 := by
  by_cases h : k < s.size
  · rw [gi_nums h]; have := s[k].toNat_lt; omega
  · simp [gi, List.getD, List.getElem?_eq_none (show (nums s).length ≤ k by rw [length_nums]; omega)]

/-- The bytes behind k rounds. -/
def upTo (s : ByteArray) (k : Nat) : Nat → Int := fun j => if j < k then upN (gi (nums s) j) else gi (nums s) j
theorem upTo_at (s : ByteArray) (k : Nat) : upTo s k k = gi (nums s) k := by simp [upTo]
theorem upTo_zero (s : ByteArray) : gi (nums s) = upTo s 0 := by funext j; simp [upTo]
theorem upTo_up (s : ByteArray) (k j : Nat) (x : Int) (h : upN (gi (nums s) k) = x) : (if j = k then x else upTo s k j) = upTo s (k + 1) j := by
  unfold upTo
  by_cases e : j = k
  · subst e; simp [h]
  · simp only [e, if_false]
    by_cases hlt : j < k
    · rw [if_pos hlt, if_pos (by omega)]
    · rw [if_neg hlt, if_neg (by omega)]
theorem upTo_same (s : ByteArray) (k j : Nat) (h : upN (gi (nums s) k) = gi (nums s) k) : upTo s k j = upTo s (k + 1) j := by
  rw [← upTo_up s k j _ h]
  by_cases e : j = k
  · subst e; simp [upTo]
  · simp [e]
theorem upTo_end (s : ByteArray) (j : Nat) (h : j < s.size) : upTo s s.size j = gi (nums (upB s)) j := by
  rw [gi_upB h]; simp [upTo, h]

set_option maxHeartbeats 1000000 in
theorem upper9_any (s : ByteArray) (w : World) (hs : s.size ≤ 300) :
    Calls Try.prog 17 #[.string s] w fun e w' => e = .returned (.string (upB s)) ∧ Old w w' := by
  go_enter Try.func17, Try.ntmps17
  go_wp2_with (refine wpList_bytes rfl 9 46 5 _ _ rfl rfl Try.underlying9 Try.underlying46 Try.underlying5 (by omega) ?_; intro c w1 h1 h2 h3 hsz h4)
  unfold maxLen at h3
  go_loopw [4, 9] (fun _ i wr => ∃ k : Nat, k ≤ s.size ∧ i = .int .i64 k ∧ Old w wr ∧ COwn wr w.heap.size .u8 s.size (upTo s k)) (fun _ i _ => s.size - (intOf i).toNat)
  case atStart => exact ⟨0, Nat.zero_le _, rfl, h1, h4.congr (fun j _ => by rw [upTo_zero])⟩
  case round =>
    obtain ⟨k, hk, rfl, ho, hown⟩ := hrel
    have HO := Lib.hid ho
    have HW := Lib.hid hown
    clear ho h1 h4 hsz
    by_cases hlt : k < s.size
    · have hc := (hown k hlt).1
      have hf := (hown k hlt).2
      rw [upTo_at] at hc
      have hb := nums_lt (s := s) k
      obtain ⟨x, hx⟩ : ∃ x, gi (nums s) k = x := ⟨_, rfl⟩
      rw [hx] at hc hb
      obtain ⟨hb0, hb1⟩ := hb
      have HX := Lib.hid hx
      clear hx hown
      by_cases ha : 97 ≤ x ∧ x ≤ 122
      · obtain ⟨ha1, ha2⟩ := ha
        have hu : upN (gi (nums s) k) = x - 32 := by rw [HX.out]; unfold upN; rw [if_pos ⟨ha1, ha2⟩]
        have HU := Lib.hid hu
        clear hu
        go_wp2
        go_roundw
        case rel => exact ⟨k + 1, by omega, by go_num, HO.out.stored (by simp) _, (HW.out.stored k hlt _).congr (fun j hj => upTo_up s k j _ HU.out)⟩
        case measure => simp [intOf]; omega
      · have hu : upN (gi (nums s) k) = gi (nums s) k := by rw [HX.out]; unfold upN; rw [if_neg ha]
        have HU := Lib.hid hu
        clear hu
        by_cases ha1 : 97 ≤ x
        · have ha2 : ¬ x ≤ 122 := fun h => ha ⟨ha1, h⟩
          clear ha
          go_wp2
          go_roundw
          case rel => exact ⟨k + 1, by omega, by go_num, HO.out, HW.out.congr (fun j hj => upTo_same s k j HU.out)⟩
          case measure => simp [intOf]; omega
        · clear ha
          go_wp2
          go_roundw
          case rel => exact ⟨k + 1, by omega, by go_num, HO.out, HW.out.congr (fun j hj => upTo_same s k j HU.out)⟩
          case measure => simp [intOf]; omega
    · obtain rfl : k = s.size := by omega
      have hown := HW.out
      have hbk := bytes_back (P := Try.prog) wr 46 9 5 w.heap.size c (upB s) Try.underlying46 Try.underlying5 Try.underlying9 (by rw [size_upB]; exact hown.congr (fun j hj => upTo_end s j hj))
      rw [size_upB] at hbk
      clear hown
      go_wp2
      go_ret
      exact ⟨rfl, HO.out⟩

/-- What impl.SameRunes tells. -/
def sameR (s t : ByteArray) (fold : Bool) : Bool := if fold = true then decide (foldEq (runes s) (runes t)) else decide (runes s = runes t)
theorem sameR_true (s t : ByteArray) : sameR s t true = decide (foldEq (runes s) (runes t)) := by simp [sameR]
theorem sameR_false (s t : ByteArray) : sameR s t false = decide (runes s = runes t) := by simp [sameR]

theorem sameRunes_any (s t : ByteArray) (fold : Bool) (w : World) (hs : s.size ≤ 300) (ht : t.size ≤ 300) :
    Calls Try.prog 18 #[.string s, .string t, .bool fold] w fun e w' => e = .returned (.bool (sameR s t fold)) ∧ Old w w' := by
  cases fold
  · go_enter Try.func18, Try.ntmps18
    go_wp2_with (first
      | (refine wpList_runes rfl 9 42 21 _ _ rfl rfl Try.underlying9 Try.underlying42 Try.underlying21 (by omega) ?_; intro v w1 h1 h2 _ _)
      | (go_at_call 31; refine (equal_any _ _ _ _ _ (RunesAt.later (by assumption) (by assumption)) (by assumption)).mono ?_; rintro e w2 ⟨rfl, h3⟩))
    go_ret
    exact ⟨ret_bool (sameR_false s t), (Old.trans (by assumption) (by assumption)).trans h3⟩
  · go_enter Try.func18, Try.ntmps18
    go_wp2_with (first
      | (refine wpList_runes rfl 9 42 21 _ _ rfl rfl Try.underlying9 Try.underlying42 Try.underlying21 (by omega) ?_; intro v w1 h1 h2 _ _)
      | (go_at_call 30; refine (equalFold_any _ _ _ _ _ (RunesAt.later (by assumption) (by assumption)) (by assumption)).mono ?_; rintro e w2 ⟨rfl, h3⟩))
    go_ret
    exact ⟨ret_bool (sameR_true s t), (Old.trans (by assumption) (by assumption)).trans h3⟩
end Go.Proofs.Ythfjkaeenpbebaa
