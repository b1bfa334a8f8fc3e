/- What the listed variable ErrSyntax holds when the call begins. -/
import Derived.Test.YthfjkaeenpbebaaDoorRows
import Derived.Test.YthfjkaeenpbebaaDoorGetInt
import Derived.Stop.LaidErr
import Derived.Stop.Joined
import Derived.LaidMore
import Derived.ProofKit
namespace Go.Proofs.YthfjkaeenpbebaaDoor
open Go.RowKit
set_option maxRecDepth 100000

theorem star_es : "*" ++ "errors.errorString" = "*errors.errorString" := by decide
theorem row_es (u : TypeId) (h : Tryd.prog.typeName? 3 u = some "*errors.errorString") : u = 130 :=
  typeName_ptr_named (nm := "errors.errorString") (by rw [star_es]; kernel_rfl) (by kernel_rfl) (by decide) u (by rw [star_es]; exact h)
theorem gES : Tryd.prog.globalNamed "strconv.ErrSyntax" = some 3 := by kernel_rfl
theorem err_of {r : List (String × DataW Unit)} {W : World} (h : laidMet Tryd.prog (("strconv.ErrSyntax", Rows.laid_strconv_ErrSyntax) :: r) W) : ErrAt W := by
  obtain ⟨a0, s0, hv0, -, -, -⟩ := laid_sentinel h gES (by kernel_rfl) Tryd.underlying72 row_es Tryd.underlying130 Tryd.underlying132 rfl rfl Tryd.underlying9 (by kernel_rfl) (by kernel_rfl)
  exact ⟨_, by have h0 := World.var?_cell gES hv0 0; simpa using h0, Or.inr ⟨_, _, rfl⟩⟩
theorem err_numberOf {W : World} (h : laidMetH Tryd.prog Rows.fnNumberOfRow.laid W) : ErrAt W := by
  rw [MakeChecks.laidMetH_plain _ _ _ (by kernel_rfl)] at h
  have h2 : laidMet Tryd.prog (("math/bits.deBruijn32tab", Rows.laid_math_bits_deBruijn32tab) :: ("math/bits.deBruijn64tab", Rows.laid_math_bits_deBruijn64tab) :: ("internal/strconv.uint64pow10", Rows.laid_internal_strconv_uint64pow10) :: ("strconv.ErrRange", Rows.laid_strconv_ErrRange) :: ("strconv.ErrSyntax", Rows.laid_strconv_ErrSyntax) :: []) W := h
  exact err_of h2.tail.tail.tail.tail
theorem err_escapeTwo {W : World} (h : laidMetH Tryd.prog Rows.fnEscapeTwoRow.laid W) : ErrAt W := by
  rw [MakeChecks.laidMetH_plain _ _ _ (by kernel_rfl)] at h
  have h2 : laidMet Tryd.prog (("math/bits.deBruijn32tab", Rows.laid_math_bits_deBruijn32tab) :: ("math/bits.deBruijn64tab", Rows.laid_math_bits_deBruijn64tab) :: ("internal/strconv.uint64pow10", Rows.laid_internal_strconv_uint64pow10) :: ("strconv.ErrRange", Rows.laid_strconv_ErrRange) :: ("strconv.ErrSyntax", Rows.laid_strconv_ErrSyntax) :: []) W := h
  exact err_of h2.tail.tail.tail.tail
end Go.Proofs.YthfjkaeenpbebaaDoor
