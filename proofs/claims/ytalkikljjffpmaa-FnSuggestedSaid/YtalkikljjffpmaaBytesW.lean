/- Places of bytes in texts: strings.IndexByte, LastIndexByte, and of other bytes. -/
import Derived.Test.YtalkikljjffpmaaProg
import Derived.Test.YtalkikljjffpmaaTextM
import Derived.Lib.Strings
import Derived.Lib.Slices
import Derived.Lib.Walk
import Derived.Lib.Bytealg
namespace Go.Proofs.Ytalkikljjffpmaa
open Go.RowKit
set_option linter.unusedVariables false
set_option linter.unusedSimpArgs false
set_option linter.unnecessarySimpa false
set_option maxRecDepth 100000

/-- A byte that is (is not) the one of a number. -/
def isB (d : Int) (x : UInt8) : Bool := (x.toNat : Int) == d
def noB (d : Int) (x : UInt8) : Bool := !((x.toNat : Int) == d)
theorem noB_true {d : Int} {x : UInt8} (h : noB d x = true) : ((x.toNat : Int) == d) = false := by unfold noB at h; simpa using h
theorem noB_false {d : Int} {x : UInt8} (h : noB d x = false) : ((x.toNat : Int) == d) = true := by unfold noB at h; simpa using h
theorem fidx_cons (p : UInt8 → Bool) (a : UInt8) (l : Bs) : fidx p (a :: l) = if p a then 0 else if fidx p l = -1 then -1 else fidx p l + 1 := by
  unfold fidx
  rw [List.findIdx_cons]
  cases h : p a with
  | true => simp
  | false =>
    simp only [cond_false, List.length_cons, Bool.false_eq_true, if_false]
    by_cases h2 : List.findIdx p l < l.length
    · rw [if_pos h2, if_pos (by omega), if_neg (by omega)]; omega
    · rw [if_neg h2, if_neg (by omega)]; simp
theorem indexByte_fidx (c : UInt8) : ∀ l : Bs, Lib.indexByte l c = fidx (fun x => x == c) l
  | [] => rfl
  | a :: l => by
    rw [fidx_cons]; unfold Lib.indexByte
    rw [indexByte_fidx c l]
    by_cases h : fidx (fun x => x == c) l = -1 <;> simp [h]
theorem isB_32 : isB 32 = fun x => x == (32 : Int).toNat.toUInt8 := by
  funext x
  have h : (32 : Int).toNat.toUInt8 = 32 := rfl
  rw [h]
  unfold isB
  rw [Bool.eq_iff_iff]
  simp
  constructor
  · intro e; exact UInt8.toNat_inj.1 (by have : (32 : UInt8).toNat = 32 := rfl; omega)
  · intro e; subst e; rfl
theorem get_tx {l : Bs} {k : Nat} (h : k < l.length) (h2 : k < (tx l).size) : (tx l)[k] = l[k] := tx_get h

end Go.Proofs.Ytalkikljjffpmaa
