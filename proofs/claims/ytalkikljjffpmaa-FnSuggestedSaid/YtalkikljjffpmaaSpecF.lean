/- The reference's searches: spec.hasByte, first, last, Start, End. -/
import Derived.Test.YtalkikljjffpmaaProg
import Derived.Test.YtalkikljjffpmaaDocW
namespace Go.Proofs.Ytalkikljjffpmaa
open Go.RowKit
set_option linter.unusedVariables false
set_option linter.unusedSimpArgs false
set_option linter.unnecessarySimpa false
set_option maxRecDepth 100000

/-- Whether some bytes have a byte; a byte that is (nt: is none) of some. -/
def hasb (S : Bs) (x : UInt8) : Bool := S.contains x
def setP (S : Bs) (nt : Bool) (x : UInt8) : Bool := hasb S x != nt
theorem beq_same {a b : UInt8} (h : a = b) : ((a.toNat : Int) == (b.toNat : Int)) = true := by rw [h]; simp
theorem beq_diff {a b : UInt8} (h : a ≠ b) : ((a.toNat : Int) == (b.toNat : Int)) = false := by
  rw [beq_eq_false_iff_ne]; intro e; exact h (UInt8.toNat_inj.1 (by omega))
theorem setP_spell {S : Bs} {nt b : Bool} {x : UInt8} (h : setP S nt x = b) : (!hasb S x == nt) = b := by
  unfold setP at h; rw [← h]; cases hasb S x <;> cases nt <;> rfl
theorem contains_at {S : Bs} {k : Nat} {c : UInt8} (hk : k < S.length) (h : S[k] = c) : hasb S c = true := by
  unfold hasb; rw [List.contains_iff_mem]; subst h; exact List.getElem_mem hk
theorem contains_none {S : Bs} {c : UInt8} (h : ∀ j (hj : j < S.length), S[j] ≠ c) : hasb S c = false := by
  unfold hasb
  cases e : S.contains c with
  | false => rfl
  | true =>
    rw [List.contains_iff_mem] at e
    obtain ⟨i, hi, he⟩ := List.getElem_of_mem e
    exact absurd he (h i hi)
end Go.Proofs.Ytalkikljjffpmaa
