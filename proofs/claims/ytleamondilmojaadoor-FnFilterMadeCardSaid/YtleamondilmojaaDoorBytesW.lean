/- Places of bytes in texts: strings.IndexByte, LastIndexByte, and of other bytes. -/
import Derived.Test.YtleamondilmojaaDoorProg
import Derived.Test.YtleamondilmojaaDoorTextM
import Derived.Lib.Strings
import Derived.Lib.Slices
import Derived.Lib.Walk
import Derived.Lib.Bytealg
namespace Go.Proofs.YtleamondilmojaaDoor
open Go.RowKit
set_option linter.unusedVariables false
set_option linter.unusedSimpArgs false
set_option linter.unnecessarySimpa false
set_option maxRecDepth 100000

/-- A byte that is (is not) the one of a number. -/
def isB (d : Int) (x : UInt8) : Bool := (x.toNat : Int) == d
def noB (d : Int) (x : UInt8) : Bool := !((x.toNat : Int) == d)
theorem noB_true {d : Int} {x : UInt8} (h : noB d x = true) : ((x.toNat : Int) == d) = false := by unfold noB at h; simpa using h
theorem noB_false {d : Int} {x : UInt8} (h : noB d x = false) : ((x.toNat : Int) == d) = true := by unfold noB at h; simpa using h
theorem fidx_cons (p : UInt8 → Bool) (a : UInt8) (l : Bs) : fidx p (a :: l) = if p a then 0 else if fidx p l = -1 then -1 else fidx p l + 1 := by
  unfold fidx
  rw [List.findIdx_cons]
  cases h : p a with
  | true => simp
  | false =>
    simp only [cond_false, List.length_cons, Bool.false_eq_true, if_false]
    by_cases h2 : List.findIdx p l < l.length
    · rw [if_pos h2, if_pos (by omega), if_neg (by omega)]; omega
    · rw [if_neg h2, if_neg (by omega)]; simp
theorem indexByte_fidx (c : UInt8) : ∀ l : Bs, Lib.indexByte l c = fidx (fun x => x == c) l
  | [] => rfl
  | a :: l => by
    rw [fidx_cons]; unfold Lib.indexByte
    rw [indexByte_fidx c l]
    by_cases h : fidx (fun x => x == c) l = -1 <;> simp [h]
theorem isB_32 : isB 32 = fun x => x == (32 : Int).toNat.toUInt8 := by
  funext x
  have h : (32 : Int).toNat.toUInt8 = 32 := rfl
  rw [h]
  unfold isB
  rw [Bool.eq_iff_iff]
  simp
  constructor
  · intro e; exact UInt8.toNat_inj.1 (by have : (32 : UInt8).toNat = 32 := rfl; omega)
  · intro e; subst e; rfl
theorem get_tx {l : Bs} {k : Nat} (h : k < l.length) (h2 : k < (tx l).size) : (tx l)[k] = l[k] := tx_get h

theorem libs_any (l : Bs) (d : Int) (w : World) (hn : l.length ≤ 1000000) : Calls Tryd.prog 123 #[.string (tx l), .int .u8 d] w fun e w' => e = .returned (.int .i64 (lidx (isB d) l)) ∧ w' = w := by
  have hs : (tx l).size = l.length := tx_size l
  go_enter Tryd.func123, Tryd.ntmps123
  go_wp2
  go_loop [5] (fun i => ∃ k : Nat, k ≤ l.length ∧ i = .int .i64 ((k : Int) - 1) ∧ ∀ j (hj : j < l.length), k ≤ j → isB d l[j] = false) (fun i => (intOf i + 1).toNat)
  case atStart => exact ⟨l.length, Nat.le_refl _, rfl, fun j hj h => absurd hj (by omega)⟩
  case round =>
    obtain ⟨k, hk, rfl, hall⟩ := hrel
    have AL := Lib.hid hall
    clear hall
    by_cases h0 : 0 < k
    · obtain ⟨q, rfl⟩ : ∃ q, k = q + 1 := ⟨k - 1, by omega⟩
      have hq : q < l.length := by omega
      have e0 : (((q + 1 : Nat) : Int) - 1) = (q : Int) := by omega
      rw [e0]
      have hg := get_tx hq (by omega)
      cases hc : isB d l[q] with
      | true =>
        have R := Lib.hid (lidx_at hq (fun j hj h => AL.out j hj (by omega)) hc)
        have e1 : (((tx l)[q]'(by omega)).toNat : Int) == d := by rw [hg]; exact hc
        clear hc hg e0
        go_wp2_with fail
        go_ret
        exact ⟨ret_int R.out, rfl⟩
      | false =>
        have e1 : ((((tx l)[q]'(by omega)).toNat : Int) == d) = false := by rw [hg]; exact hc
        have HC := Lib.hid hc
        clear hc hg e0
        go_wp2_with fail
        go_round
        case rel =>
          refine ⟨q, by omega, rfl, fun j hj h => ?_⟩
          by_cases e : j = q
          · subst e; exact HC.out
          · exact AL.out j hj (by omega)
        case measure => simp [intOf]
    · obtain rfl : k = 0 := by omega
      have R := Lib.hid (lidx_none (p := isB d) (fun j hj => AL.out j hj (by omega)))
      go_wp2_with fail
      go_ret
      exact ⟨ret_int R.out, rfl⟩
theorem lnb_any (l : Bs) (d : Int) (w : World) (hn : l.length ≤ 1000000) : Calls Tryd.prog 25 #[.string (tx l), .int .u8 d] w fun e w' => e = .returned (.int .i64 (lidx (noB d) l)) ∧ w' = w := by
  have hs : (tx l).size = l.length := tx_size l
  go_enter Tryd.func25, Tryd.ntmps25
  go_wp2
  go_loop [5] (fun i => ∃ k : Nat, k ≤ l.length ∧ i = .int .i64 ((k : Int) - 1) ∧ ∀ j (hj : j < l.length), k ≤ j → noB d l[j] = false) (fun i => (intOf i + 1).toNat)
  case atStart => exact ⟨l.length, Nat.le_refl _, rfl, fun j hj h => absurd hj (by omega)⟩
  case round =>
    obtain ⟨k, hk, rfl, hall⟩ := hrel
    have AL := Lib.hid hall
    clear hall
    by_cases h0 : 0 < k
    · obtain ⟨q, rfl⟩ : ∃ q, k = q + 1 := ⟨k - 1, by omega⟩
      have hq : q < l.length := by omega
      have e0 : (((q + 1 : Nat) : Int) - 1) = (q : Int) := by omega
      rw [e0]
      have hg := get_tx hq (by omega)
      cases hc : noB d l[q] with
      | true =>
        have R := Lib.hid (lidx_at hq (fun j hj h => AL.out j hj (by omega)) hc)
        have e1 : ((((tx l)[q]'(by omega)).toNat : Int) == d) = false := by rw [hg]; exact noB_true hc
        clear hc hg e0
        go_wp2_with fail
        go_ret
        exact ⟨ret_int R.out, rfl⟩
      | false =>
        have e1 : ((((tx l)[q]'(by omega)).toNat : Int) == d) = true := by rw [hg]; exact noB_false hc
        have HC := Lib.hid hc
        clear hc hg e0
        go_wp2_with fail
        go_round
        case rel =>
          refine ⟨q, by omega, rfl, fun j hj h => ?_⟩
          by_cases e : j = q
          · subst e; exact HC.out
          · exact AL.out j hj (by omega)
        case measure => simp [intOf]
    · obtain rfl : k = 0 := by omega
      have R := Lib.hid (lidx_none (p := noB d) (fun j hj => AL.out j hj (by omega)))
      go_wp2_with fail
      go_ret
      exact ⟨ret_int R.out, rfl⟩
theorem inb_any (l : Bs) (d : Int) (w : World) (hn : l.length ≤ 1000000) : Calls Tryd.prog 24 #[.string (tx l), .int .u8 d] w fun e w' => e = .returned (.int .i64 (fidx (noB d) l)) ∧ w' = w := by
  have hs : (tx l).size = l.length := tx_size l
  go_enter Tryd.func24, Tryd.ntmps24
  go_wp2
  go_loop [6] (fun i => ∃ k : Nat, k ≤ l.length ∧ i = .int .i64 k ∧ ∀ j (hj : j < l.length), j < k → noB d l[j] = false) (fun i => l.length - (intOf i).toNat)
  case atStart => exact ⟨0, Nat.zero_le _, rfl, fun j hj h => absurd h (by omega)⟩
  case round =>
    obtain ⟨q, hk, rfl, hall⟩ := hrel
    have AL := Lib.hid hall
    clear hall
    by_cases hq : q < l.length
    · have hg := get_tx hq (by omega)
      cases hc : noB d l[q] with
      | true =>
        have R := Lib.hid (fidx_at hq (fun j hj h => AL.out j hj h) hc)
        have e1 : ((((tx l)[q]'(by omega)).toNat : Int) == d) = false := by rw [hg]; exact noB_true hc
        clear hc hg
        go_wp2_with fail
        go_ret
        exact ⟨ret_int R.out, rfl⟩
      | false =>
        have e1 : ((((tx l)[q]'(by omega)).toNat : Int) == d) = true := by rw [hg]; exact noB_false hc
        have HC := Lib.hid hc
        clear hc hg
        go_wp2_with fail
        go_round
        case rel =>
          refine ⟨q + 1, by omega, by go_num, fun j hj h => ?_⟩
          by_cases e : j = q
          · subst e; exact HC.out
          · exact AL.out j hj (by omega)
        case measure => simp [intOf]; omega
    · obtain rfl : q = l.length := by omega
      have R := Lib.hid (fidx_none (p := noB d) (fun j hj => AL.out j hj hj))
      go_wp2_with fail
      go_ret
      exact ⟨ret_int R.out, rfl⟩
theorem lib_any (l : Bs) (d : Int) (w : World) (hn : l.length ≤ 1000000) : Calls Tryd.prog 96 #[.string (tx l), .int .u8 d] w fun e w' => e = .returned (.int .i64 (lidx (isB d) l)) ∧ w' = w := by
  go_enter Tryd.func96, Tryd.ntmps96
  go_wp2_with (go_at_call 123; refine (libs_any l d _ hn).mono ?_; rintro e w' ⟨rfl, rfl⟩)
  go_ret
  exact ⟨rfl, rfl⟩
set_option maxHeartbeats 1000000 in
theorem ibl_any (s : ByteArray) (c : Int) (w : World) : Calls Tryd.prog 124 #[.string s, .int .u8 c] w fun e w' => e = .returned (.int .i64 (Lib.indexByte s.data.toList c.toNat.toUInt8)) ∧ w' = w := by
  go_enter Tryd.func124, Tryd.ntmps124
  go_wp2
  rw [run_callFunc_extern Tryd.func136 (by kernel_rfl) (by kernel_rfl) (by kernel_rfl) (e := Extern.BytealgIndexByte.indexByte) (by kernel_rfl), Lib.run_indexByteString]
  simp only [Result.andThen]
  rw [Oper.upon_value]
  go_wp2
  go_ret
  exact ⟨rfl, rfl⟩
theorem ib_any (l : Bs) (w : World) : Calls Tryd.prog 97 #[.string (tx l), .int .u8 32] w fun e w' => e = .returned (.int .i64 (fidx (isB 32) l)) ∧ w' = w := by
  have R : Hid (Lib.indexByte (tx l).data.toList (32 : Int).toNat.toUInt8 = fidx (isB 32) l) := by
    unfold Hid
    rw [isB_32]; exact indexByte_fidx _ l
  go_enter Tryd.func97, Tryd.ntmps97
  go_wp2_with (go_at_call 124; refine (ibl_any (tx l) 32 _).mono ?_; rw [R.out]; rintro e w' ⟨rfl, rfl⟩)
  go_ret
  exact ⟨rfl, rfl⟩
end Go.Proofs.YtleamondilmojaaDoor
