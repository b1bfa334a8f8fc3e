/- FnTerminator: for every 16-bit code point c, impl.Terminator tells that c ends a sequence just if c is a small letter, or one from '@' to 'Z'; and 'm' does. No condition. -/
import Derived.Test.YthfjkaeenpbebaaPFnTerminatorx1
namespace Go.Proofs.Ythfjkaeenpbebaa.Pure
open Go.RowKit Go.Proofs.Ythfjkaeenpbebaa.PFnTerminator Go.Proofs.YthfjkaeenpbebaaW.PrintWords Go.Proofs.YthfjkaeenpbebaaW.PrintLast

theorem wrap_of {n : Int} (h : (Lit.int .u16 n).wf = true) : wrap32 n = n ∧ 0 ≤ n ∧ n ≤ 65535 := by
  have hb : 0 ≤ n ∧ n ≤ 65535 := by
    simp [Lit.wf, IntKind.min, IntKind.max, IntKind.bits, IntKind.signed] at h
    omega
  refine ⟨?_, hb.1, hb.2⟩
  unfold wrap32
  omega

theorem FnTerminator : laws_FnTerminator.Pure := by
  intro a0 h
  obtain ⟨hw, h0, h1⟩ := wrap_of h
  unfold laws_FnTerminator.f impl_Terminator.f ansi_IsTerminator.f
  rw [hw]
  (repeat' split) <;> simp_all <;> omega
end Go.Proofs.Ythfjkaeenpbebaa.Pure
