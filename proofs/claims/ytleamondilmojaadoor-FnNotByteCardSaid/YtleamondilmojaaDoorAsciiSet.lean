/- goprompt's sets of ASCII signs. -/
import Derived.Test.YtleamondilmojaaDoorSpecF
import Derived.Laws.Bits64b
namespace Go.Proofs.YtleamondilmojaaDoor
open Go.RowKit
set_option linter.unusedVariables false
set_option linter.unusedSimpArgs false
set_option linter.unnecessarySimpa false
set_option maxRecDepth 100000

theorem bits_and_u32 (a b : Nat) (ha : a < 4294967296) (hb : b < 4294967296) : bits .and .u32 (a : Int) (b : Int) = ((a &&& b : Nat) : Int) := by
  have hx : a &&& b < 2 ^ 32 := Nat.and_lt_two_pow _ (by omega)
  have h1 : (BitVec.ofInt 32 (a : Int)).toNat = a := by
    rw [BitVec.ofInt_natCast, BitVec.toNat_ofNat]; exact Nat.mod_eq_of_lt (by omega)
  have h2 : (BitVec.ofInt 32 (b : Int)).toNat = b := by
    rw [BitVec.ofInt_natCast, BitVec.toNat_ofNat]; exact Nat.mod_eq_of_lt (by omega)
  show IntKind.u32.wrap ((BitVec.ofInt 32 (a : Int) &&& BitVec.ofInt 32 (b : Int)).toNat : Int) = _
  rw [BitVec.toNat_and, h1, h2, IntKind.wrap_u32]
  omega
theorem bits_or_u32 (a b : Nat) (ha : a < 4294967296) (hb : b < 4294967296) : bits .or .u32 (a : Int) (b : Int) = ((a ||| b : Nat) : Int) := by
  have hx : a ||| b < 2 ^ 32 := Nat.or_lt_two_pow (by omega) (by omega)
  have h1 : (BitVec.ofInt 32 (a : Int)).toNat = a := by
    rw [BitVec.ofInt_natCast, BitVec.toNat_ofNat]; exact Nat.mod_eq_of_lt (by omega)
  have h2 : (BitVec.ofInt 32 (b : Int)).toNat = b := by
    rw [BitVec.ofInt_natCast, BitVec.toNat_ofNat]; exact Nat.mod_eq_of_lt (by omega)
  show IntKind.u32.wrap ((BitVec.ofInt 32 (a : Int) ||| BitVec.ofInt 32 (b : Int)).toNat : Int) = _
  rw [BitVec.toNat_or, h1, h2, IntKind.wrap_u32]
  omega
theorem pow_lt32 (k : Nat) (h : k < 32) : 2 ^ k < 4294967296 := Nat.lt_of_lt_of_le (Nat.pow_lt_pow_right (by omega) h) (by decide)
theorem pow_mod32 (k : Nat) (h : k < 32) : (2 : Int) ^ k % 4294967296 = (2 : Int) ^ k := by
  have h1 := pow_lt32 k h
  have h2 : ((2 ^ k : Nat) : Int) = (2 : Int) ^ k := by simp
  rw [← h2]
  generalize 2 ^ k = m at h1
  exact Int.emod_eq_of_lt (by omega) (by omega)
theorem and_pow (a k : Nat) : (a &&& 2 ^ k = 0) ↔ a.testBit k = false := by
  constructor
  · intro h
    have := congrArg (fun x => Nat.testBit x k) h
    simpa [Nat.testBit_and, Nat.testBit_two_pow_self] using this
  · intro h
    apply Nat.eq_of_testBit_eq
    intro i
    rw [Nat.testBit_and, Nat.testBit_two_pow, Nat.zero_testBit]
    by_cases e : k = i
    · subst e; simp [h]
    · simp [e]

theorem nc_any (p : Nat) (A : Nat → Nat) (c : UInt8) (w : World) (h : ∀ j, j < 8 → w.cell? ⟨p, j, none⟩ = some (.int .u32 (A j))) (hA : ∀ j, A j < 4294967296) :
    Calls Tryd.prog 51 #[.pointer (some ⟨p, 0, none⟩), .int .u8 c.toNat] w fun e w' => e = .returned (.bool (!(A (c.toNat / 32)).testBit (c.toNat % 32))) ∧ w' = w := by
  have hc : c.toNat < 256 := c.toNat_lt
  obtain ⟨n, hn⟩ : ∃ n, n = c.toNat := ⟨_, rfl⟩
  rw [← hn] at hc ⊢
  have h1 := h (n / 32) (by omega)
  have h2 := hA (n / 32)
  have e1 := pow_mod32 (n % 32) (by omega)
  have e2 := bits_and_u32 (A (n / 32)) (2 ^ (n % 32)) h2 (pow_lt32 _ (by omega))
  have e3 : ((2 ^ (n % 32) : Nat) : Int) = (2 : Int) ^ (n % 32) := by simp
  rw [e3] at e2
  have R : Hid ((!(A (n / 32)).testBit (n % 32)) = (bits .and .u32 (A (n / 32)) ((2 : Int) ^ (n % 32)) == 0)) := by
    unfold Hid
    rw [e2]
    have := and_pow (A (n / 32)) (n % 32)
    cases hb : (A (n / 32)).testBit (n % 32) with
    | true =>
      rw [hb] at this
      have h0 : A (n / 32) &&& 2 ^ (n % 32) ≠ 0 := fun e => by have := this.1 e; cases this
      symm; rw [Bool.not_true, beq_eq_false_iff_ne]; omega
    | false =>
      have h0 := this.2 hb
      rw [h0]; rfl
  clear hn h hA e2 e3
  generalize A (n / 32) = a at h1 h2 R ⊢
  go_enter Tryd.func51, Tryd.ntmps51
  go_wp2_with fail
  go_ret
  exact ⟨ret_bool R.out, rfl⟩

/-- The cells of a set: bit c % 32 of number c / 32 tells of sign c. -/
def ascA (S : Bs) (j : Nat) : Nat := S.foldl (fun a c => if c.toNat / 32 = j then a ||| 2 ^ (c.toNat % 32) else a) 0
theorem ascA_snoc (S : Bs) (c : UInt8) (j : Nat) : ascA (S ++ [c]) j = if c.toNat / 32 = j then ascA S j ||| 2 ^ (c.toNat % 32) else ascA S j := by unfold ascA; simp [List.foldl_append]
theorem ascA_lt (j : Nat) : ∀ (n : Nat) (S : Bs), S.length = n → ascA S j < 4294967296
  | 0, S, h => by
    have : S = [] := List.eq_nil_of_length_eq_zero h
    subst this; simp [ascA]
  | n + 1, S, h => by
    obtain ⟨m, d, rfl⟩ : ∃ M s, S = M ++ [s] := ⟨S.dropLast, S.getLast (by intro e; rw [e] at h; simp at h), (List.dropLast_concat_getLast _).symm⟩
    have ih := ascA_lt j n m (by simpa using h)
    rw [ascA_snoc]
    split
    · have h1 := pow_lt32 (d.toNat % 32) (by omega)
      exact Nat.or_lt_two_pow (n := 32) (by omega) (by omega)
    · exact ih
theorem ascA_bit (c : UInt8) : ∀ (n : Nat) (S : Bs), S.length = n → (ascA S (c.toNat / 32)).testBit (c.toNat % 32) = hasb S c
  | 0, S, h => by
    have : S = [] := List.eq_nil_of_length_eq_zero h
    subst this; simp [ascA, hasb]
  | n + 1, S, h => by
    obtain ⟨m, d, rfl⟩ : ∃ M s, S = M ++ [s] := ⟨S.dropLast, S.getLast (by intro e; rw [e] at h; simp at h), (List.dropLast_concat_getLast _).symm⟩
    have ih := ascA_bit c n m (by simpa using h)
    have hb : hasb (m ++ [d]) c = (hasb m c || c == d) := by
      unfold hasb
      by_cases e : c = d <;> simp [e]
    rw [ascA_snoc, hb]
    by_cases hcd : c = d
    · subst hcd
      simp [Nat.testBit_or, Nat.testBit_two_pow_self]
    · have h1 : (c == d) = false := by rw [beq_eq_false_iff_ne]; exact hcd
      rw [h1, Bool.or_false]
      split
      · rename_i hj
        rw [Nat.testBit_or, ih]
        have hne : d.toNat % 32 ≠ c.toNat % 32 := fun e => hcd (UInt8.toNat_inj.1 (by omega))
        rw [Nat.testBit_two_pow_of_ne hne, Bool.or_false]
      · exact ih
end Go.Proofs.YtleamondilmojaaDoor
