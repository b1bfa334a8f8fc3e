/- spec.Number: the digits of a number; spec.Small. -/
import Derived.Test.YthfjkaeenpbebaaDoorProg
import Derived.Test.YthfjkaeenpbebaaDoorBase
import Derived.Test.YthfjkaeenpbebaaDoorApp
import Derived.Test.YthfjkaeenpbebaaDoorStep
import Derived.Lib.AtoiAll
import Derived.LoopTactic
namespace Go.Proofs.YthfjkaeenpbebaaDoor
open Go.RowKit
set_option linter.unusedVariables false
set_option linter.unusedSimpArgs false
set_option linter.unnecessarySimpa false
set_option maxRecDepth 100000

/-- What digits spell, with acc before. -/
def spells (acc : Nat) (l : List UInt8) : Nat := l.foldl (fun a c => a * 10 + (c.toNat - 48)) acc
def digit (c : UInt8) : Prop := 48 ≤ c.toNat ∧ c.toNat ≤ 57
theorem spells_le : ∀ (l : List UInt8) (acc : Nat), acc ≤ spells acc l
  | [], acc => Nat.le_refl _
  | c :: l, acc => by
    have := spells_le l (acc * 10 + (c.toNat - 48))
    show acc ≤ spells (acc * 10 + (c.toNat - 48)) l
    omega
theorem parse_digits : ∀ (l : List UInt8) (acc : Nat), (∀ c ∈ l, digit c) → spells acc l < 1000000000000 → Lib.parseUint10 acc l = .ok (spells acc l)
  | [], acc, _, _ => rfl
  | c :: l, acc, h, hb => by
    have hc := h c (by simp)
    have h1 := spells_le l (acc * 10 + (c.toNat - 48))
    have h2 : spells acc (c :: l) = spells (acc * 10 + (c.toNat - 48)) l := rfl
    rw [h2] at hb
    unfold Lib.parseUint10
    rw [if_pos (show 48 ≤ c.toNat ∧ c.toNat ≤ 57 from hc), if_neg (by omega), if_neg (by omega), h2]
    exact parse_digits l _ (fun x hx => h x (by simp [hx])) hb
theorem atoi_digits (l : List UInt8) (h0 : l ≠ []) (h : ∀ c ∈ l, digit c) (n : Nat) (hn : spells 0 l = n) (hb : n < 1000000000000) : Lib.atoiAll l = .ok (n : Int) := by
  cases l with
  | nil => exact absurd rfl h0
  | cons c r =>
    have hc := h c (by simp)
    unfold digit at hc
    have hp := parse_digits (c :: r) 0 h (by omega)
    rw [hn] at hp
    have e1 : ¬ (c.toNat = 43 ∨ c.toNat = 45) := by omega
    have e2 : ¬ (c.toNat = 45) := by omega
    have hm : Lib.parseMag (c :: r) = .ok n := by
      unfold Lib.parseMag
      rw [if_neg (by simp)]
      exact hp
    have e3 : ¬ (9223372036854775808 ≤ n) := by omega
    have e1a : ¬ (c.toNat = 43) := by omega
    simp only [Lib.atoiAll, e1a, e2, or_self, if_false, hm, e3, and_false, false_and]
theorem atoi_letters (l : List UInt8) (h : ∀ c ∈ l, 97 ≤ c.toNat ∧ c.toNat ≤ 122) : (∀ v, Lib.atoiAll l ≠ .ok v) ∧ Lib.atoiAll l ≠ .range := by
  cases l with
  | nil => exact ⟨fun v => by simp [Lib.atoiAll], by simp [Lib.atoiAll]⟩
  | cons c r =>
    have hc := h c (by simp)
    have e1 : ¬ (c.toNat = 43 ∨ c.toNat = 45) := by omega
    have e3 : ¬ (48 ≤ c.toNat ∧ c.toNat ≤ 57) := by omega
    have hm : (∀ u, Lib.parseMag (c :: r) ≠ .ok u) ∧ Lib.parseMag (c :: r) ≠ .range := by
      have e4 : ¬ (c :: r = []) := by simp
      simp only [Lib.parseMag, e4, if_false, Lib.parseUint10, e3]
      exact ⟨fun u e => by simp at e, fun e => by simp at e⟩
    simp only [Lib.atoiAll, e1, if_false]
    cases hq : Lib.parseMag (c :: r)
    · exact absurd hq (hm.1 _)
    · exact ⟨fun u e => by simp at e, fun e => by simp at e⟩
    · exact absurd hq hm.2

/-- s spells n. -/
def Dig (s : ByteArray) (n : Nat) : Prop := 0 < s.size ∧ s.size ≤ 11 ∧ (∀ c ∈ s.data.toList, digit c) ∧ spells 0 s.data.toList = n
theorem spells_acc : ∀ (l : List UInt8) (acc : Nat), spells acc l = acc * 10 ^ l.length + spells 0 l
  | [], acc => by simp [spells]
  | c :: l, acc => by
    have e1 : spells acc (c :: l) = spells (acc * 10 + (c.toNat - 48)) l := rfl
    have e2 : spells 0 (c :: l) = spells (0 * 10 + (c.toNat - 48)) l := rfl
    rw [e1, e2, spells_acc l (acc * 10 + (c.toNat - 48)), spells_acc l (0 * 10 + (c.toNat - 48)), List.length_cons, Nat.pow_succ, Nat.zero_mul, Nat.zero_add, Nat.add_mul]
    have : acc * 10 * 10 ^ l.length = acc * (10 ^ l.length * 10) := by rw [Nat.mul_assoc, Nat.mul_comm 10]
    omega
theorem Dig.atoi {s : ByteArray} {n : Nat} (h : Dig s n) (hb : n < 1000000000000) : Lib.atoiAll s.data.toList = .ok (n : Int) := by
  refine atoi_digits _ ?_ h.2.2.1 n h.2.2.2 hb
  intro e
  have h0 := h.1
  have h3 : s.data.toList.length = s.size := Array.length_toList
  rw [e] at h3
  simp only [List.length_nil] at h3
  omega

/-- The byte of a digit, as a string. -/
def one (m : Nat) : ByteArray := ⟨#[UInt8.ofNat (48 + m)]⟩
theorem one_list (m : Nat) (out : ByteArray) : (one m ++ out).data.toList = UInt8.ofNat (48 + m) :: out.data.toList := by
  rw [ByteArray.data_append, Array.toList_append]; rfl
theorem one_digit {m : Nat} (h : m ≤ 9) : digit (UInt8.ofNat (48 + m)) ∧ (UInt8.ofNat (48 + m)).toNat = 48 + m := by
  have e : (UInt8.ofNat (48 + m)).toNat = 48 + m := by rw [UInt8.toNat_ofNat']; exact Nat.mod_eq_of_lt (by omega)
  exact ⟨⟨by omega, by omega⟩, e⟩
/-- What stands behind the digits that are still to come. -/
def Tail (out : ByteArray) (m n : Nat) : Prop := (∀ c ∈ out.data.toList, digit c) ∧ m * 10 ^ out.data.toList.length + spells 0 out.data.toList = n ∧ out.size ≤ 10 ∧ m * 10 ^ out.size ≤ 1000000000
theorem Tail.step {out : ByteArray} {m n : Nat} (h : Tail out m n) (h9 : 9 < m) : Tail (one (m % 10) ++ out) (m / 10) n := by
  obtain ⟨h1, h2, h3, h4⟩ := h
  have hd := one_digit (m := m % 10) (by omega)
  have hsz : (one (m % 10) ++ out).size = out.size + 1 := by rw [ByteArray.size_append]; show 1 + out.size = _; omega
  refine ⟨fun c hc => ?_, ?_, ?_, ?_⟩
  · rw [one_list] at hc
    rcases List.mem_cons.1 hc with rfl | hc
    · exact hd.1
    · exact h1 c hc
  · rw [one_list, List.length_cons, Nat.pow_succ]
    have e : spells 0 (UInt8.ofNat (48 + m % 10) :: out.data.toList) = spells (m % 10) out.data.toList := by
      show spells (0 * 10 + ((UInt8.ofNat (48 + m % 10)).toNat - 48)) _ = _
      rw [hd.2]; congr 1; omega
    rw [e, spells_acc, ← h2]
    have e2 : m / 10 * (10 ^ out.data.toList.length * 10) = (m / 10 * 10) * 10 ^ out.data.toList.length := by rw [Nat.mul_comm (10 ^ _) 10, ← Nat.mul_assoc]
    rw [e2, ← Nat.add_assoc, ← Nat.add_mul]
    congr 2
    omega
  · rw [hsz]
    by_cases h : out.size ≤ 8
    · omega
    · have e : (10 : Nat) ^ 9 ≤ 10 ^ out.size := Nat.pow_le_pow_right (by omega) (by omega)
      have e2 : m * 10 ^ 9 ≤ m * 10 ^ out.size := Nat.mul_le_mul (Nat.le_refl m) e
      omega
  · rw [hsz, Nat.pow_succ]
    have e2 : m / 10 * (10 ^ out.size * 10) = (m / 10 * 10) * 10 ^ out.size := by rw [Nat.mul_comm (10 ^ _) 10, ← Nat.mul_assoc]
    rw [e2]
    exact Nat.le_trans (Nat.mul_le_mul (by omega) (Nat.le_refl _)) h4
theorem Tail.done {out : ByteArray} {m n : Nat} (h : Tail out m n) (h9 : m ≤ 9) : Dig (one m ++ out) n := by
  obtain ⟨h1, h2, h3, h4⟩ := h
  have hd := one_digit h9
  have hsz : (one m ++ out).size = out.size + 1 := by rw [ByteArray.size_append]; show 1 + out.size = _; omega
  refine ⟨by omega, by omega, fun c hc => ?_, ?_⟩
  · rw [one_list] at hc
    rcases List.mem_cons.1 hc with rfl | hc
    · exact hd.1
    · exact h1 c hc
  · rw [one_list]
    have e : spells 0 (UInt8.ofNat (48 + m) :: out.data.toList) = spells m out.data.toList := by
      show spells (0 * 10 + ((UInt8.ofNat (48 + m)).toNat - 48)) _ = _
      rw [hd.2]; congr 1; omega
    rw [e, spells_acc, h2]

theorem one_back (m : Nat) (h : m ≤ 9) (w : World) : (convert 56 9 (.slice (some ⟨w.heap.size, 0, none⟩) 1 1)).run Tryd.prog (w.alloc (.cells #[.int .u8 (48 + m)] 5)) = .ok (.string (one m)) (w.alloc (.cells #[.int .u8 (48 + m)] 5)) := by
  refine bytes_back (P := Tryd.prog) _ 56 9 5 w.heap.size 1 (one m) Tryd.underlying56 Tryd.underlying5 Tryd.underlying9 (fun j hj => ?_)
  have hj0 : j = 0 := by have : (one m).size = 1 := rfl; omega
  subst hj0
  have e := one_digit h
  refine ⟨?_, heap_free (heap_alloc_new w _) 0⟩
  rw [heap_cell (heap_alloc_new w _), gi_nums (s := one m) (k := 0) (show 0 < 1 by omega)]
  show some (Value.int .u8 (48 + (m : Int))) = some (Value.int .u8 ((UInt8.ofNat (48 + m)).toNat : Int))
  rw [e.2]
  simp
set_option maxHeartbeats 1000000 in
theorem number_any (n : Nat) (w : World) (hn : n ≤ 999999999) :
    Calls Tryd.prog 18 #[.int .i64 n] w fun e w' => ∃ s, e = .returned (.string s) ∧ Dig s n ∧ Old w w' := by
  go_enter Tryd.func18, Tryd.ntmps18
  go_wp2_with fail
  go_loopw [0, 3] (fun x o wr => ∃ (m : Nat) (out : ByteArray), x = .int .i64 m ∧ o = .string out ∧ Tail out m n ∧ m ≤ n ∧ Old w wr) (fun x _ _ => (intOf x).toNat)
  case atStart => exact ⟨n, _, rfl, rfl, ⟨fun c hc => by simp at hc, by simp [spells], by decide, by show n * 10 ^ 0 ≤ _; omega⟩, Nat.le_refl _, Old.refl _⟩
  case round =>
    obtain ⟨m, out, rfl, rfl, ht, hmn, hold⟩ := hrel
    have HT := Lib.hid ht
    have HO := Lib.hid hold
    have hsz := ht.2.2.1
    clear ht hold
    by_cases h9 : 9 < m
    · have hT2 := HT.out.step h9
      obtain ⟨q, hq⟩ : ∃ q, q = m % 10 := ⟨_, rfl⟩
      obtain ⟨d, hd⟩ : ∃ d, d = m / 10 := ⟨_, rfl⟩
      rw [← hq, ← hd] at hT2
      have HT2 := Lib.hid hT2
      have e1 : ((m : Int) % 10) = (q : Int) := by omega
      have e2 : ((m : Int) / 10) = (d : Int) := by omega
      have hq9 : q ≤ 9 := by omega
      have hdm : d < m := by omega
      have cv := one_back q hq9 wr
      have z1 : (one q).size = 1 := rfl
      clear hT2 hq hd
      go_wp2_with fail
      go_roundw
      case rel => exact ⟨d, _, rfl, rfl, HT2.out, by omega, HO.out.then_alloc _⟩
      case measure => simp [intOf]; omega
    · have hm9 : m ≤ 9 := by omega
      have cv := one_back m hm9 wr
      have z1 : (one m).size = 1 := rfl
      go_wp2_with fail
      go_ret
      exact ⟨_, rfl, HT.out.done hm9, HO.out.then_alloc _⟩

/-- A text of small letters. -/
def smallB (s : ByteArray) : Bool := decide (∀ k (h : k < s.size), 97 ≤ s[k].toNat ∧ s[k].toNat ≤ 122)
theorem smallB_yes {s : ByteArray} (h : smallB s = true) : ∀ c ∈ s.data.toList, 97 ≤ c.toNat ∧ c.toNat ≤ 122 := by
  have h2 := of_decide_eq_true h
  intro c hc
  obtain ⟨k, hk, rfl⟩ := List.getElem_of_mem hc
  have hk2 : k < s.size := by simpa using hk
  have := h2 k hk2
  rw [Array.getElem_toList]
  exact this
set_option maxHeartbeats 1000000 in
theorem small_any (s : ByteArray) (w : World) (hs : s.size ≤ 140737488351232) :
    Calls Tryd.prog 17 #[.string s] w fun e w' => e = .returned (.bool (smallB s)) ∧ w' = w := by
  go_enter Tryd.func17, Tryd.ntmps17
  go_wp2_with fail
  go_loopw [3, 6] (fun _ i wr => ∃ k : Nat, k ≤ s.size ∧ i = .int .i64 k ∧ (∀ j (h : j < s.size), j < k → 97 ≤ s[j].toNat ∧ s[j].toNat ≤ 122) ∧ wr = w) (fun _ i _ => s.size - (intOf i).toNat)
  case atStart => exact ⟨0, Nat.zero_le _, rfl, fun _ _ h => absurd h (by omega), rfl⟩
  case round =>
    obtain ⟨k, hk, rfl, hsm, rfl⟩ := hrel
    have HS := Lib.hid hsm
    clear hsm
    by_cases hks : k < s.size
    · obtain ⟨x, hx⟩ : ∃ x, x = s[k] := ⟨_, rfl⟩
      have X0 : ∀ h0 : k < s.size, s[k]'h0 = x := fun _ => hx.symm
      have HX := Lib.hid hx
      clear hx
      by_cases h1 : x.toNat < 97
      · have HN : Hid (smallB s = false) := decide_eq_false (fun hh => by have := hh k hks; rw [← HX.out] at this; omega)
        go_wp2_with fail
        go_ret
        exact ⟨ret_bool HN.out, rfl⟩
      by_cases h2 : 122 < x.toNat
      · have HN : Hid (smallB s = false) := decide_eq_false (fun hh => by have := hh k hks; rw [← HX.out] at this; omega)
        go_wp2_with fail
        go_ret
        exact ⟨ret_bool HN.out, rfl⟩
      go_wp2_with fail
      go_roundw
      case rel => exact ⟨k + 1, by omega, by go_num, fun j hj hjk => by
        by_cases e : j = k
        · subst e; rw [← HX.out]; omega
        · exact HS.out j hj (by omega), by first | rfl | trivial⟩
      case measure => simp [intOf]; omega
    · have hks' : k = s.size := by omega
      subst hks'
      have HN : Hid (smallB s = true) := decide_eq_true (fun j hj => HS.out j hj hj)
      go_wp2_with fail
      go_ret
      exact ⟨ret_bool HN.out, rfl⟩
end Go.Proofs.YthfjkaeenpbebaaDoor
