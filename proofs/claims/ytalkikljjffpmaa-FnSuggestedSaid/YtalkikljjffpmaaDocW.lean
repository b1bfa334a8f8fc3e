/- A document's words, by blanks. -/
import Derived.Test.YtalkikljjffpmaaBytesW
import Derived.Test.YtalkikljjffpmaaDocP
namespace Go.Proofs.Ytalkikljjffpmaa
open Go.RowKit
set_option linter.unusedVariables false
set_option linter.unusedSimpArgs false
set_option linter.unnecessarySimpa false
set_option maxRecDepth 100000

/-- Where a word begins, or ends: by one kind of bytes; behind (ahead of) those of the other kind. -/
def wS (p : UInt8 → Bool) (m : Bs) : Nat := (lidx p m + 1).toNat
def wSS (p q : UInt8 → Bool) (m : Bs) : Nat := if lidx q m < 0 then 0 else (lidx p (m.take (lidx q m).toNat) + 1).toNat
def wE (p : UInt8 → Bool) (m : Bs) : Nat := flen p m
def wES (p q : UInt8 → Bool) (m : Bs) : Nat := if fidx q m < 0 then m.length else (fidx q m).toNat + flen p (m.drop (fidx q m).toNat)
theorem wS_le (p : UInt8 → Bool) (m : Bs) : wS p m ≤ m.length := by have := lidx_lt p m; unfold wS; omega
theorem wSS_le (p q : UInt8 → Bool) (m : Bs) : wSS p q m ≤ m.length := by
  have h1 := lidx_lt q m
  have h2 := lidx_lt p (m.take (lidx q m).toNat)
  simp at h2
  unfold wSS; split <;> omega
theorem wE_le (p : UInt8 → Bool) (m : Bs) : wE p m ≤ m.length := flen_le p m
theorem wES_le (p q : UInt8 → Bool) (m : Bs) : wES p q m ≤ m.length := by
  have h1 := fidx_lt q m
  have h2 := flen_le p (m.drop (fidx q m).toNat)
  simp at h2
  unfold wES; split <;> omega
theorem ext_pre {l : Bs} {k : Nat} : (tx l).extract 0 k = tx (l.take k) := by rw [extract_eq, bs_tx]; rfl
theorem ext_post {l : Bs} {k : Nat} : (tx l).extract k l.length = tx (l.drop k) := by
  rw [extract_eq, bs_tx]; congr 1
  rw [List.take_of_length_le (by simp)]

section
variable (p : Nat) (l : Bs) (k : Nat) (w : World) (h : DP w p l k) (hk : k ≤ l.length) (ok : okT l)
include h hk ok
end
end Go.Proofs.Ytalkikljjffpmaa
