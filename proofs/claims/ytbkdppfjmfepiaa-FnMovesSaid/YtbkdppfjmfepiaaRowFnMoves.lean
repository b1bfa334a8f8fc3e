/- FnMoves: how far a cursor moves to the left, to the right, up and down is what the reference tells, for every document, count and column. -/
import Derived.Test.YtbkdppfjmfepiaaRows
import Derived.Test.YtbkdppfjmfepiaaLawMoves
import Derived.WalkKit
import Derived.ProofKit
import Derived.OpenShut
import Derived.ShutString
import Derived.ChangeOld
import Derived.Below
import Derived.SizedLaws
import Derived.Lib.SmallJoins
namespace Go.Proofs.Ytbkdppfjmfepiaa.fnMoves
open Go.ChangeShapes Go.WideShapes Go.ChangeAt Go.RowKit
open Go.ChangeMaps (open_string shut_string)
set_option linter.unusedVariables false
theorem own : ownKnob Try.prog.godebug = none := by kernel_rfl
set_option maxRecDepth 100000 in
theorem lifted (os : Os) (started : os.Started) (H : Type) (enc : TypeId × Value → H) :
    ReturnsInHanded {} Try.checked os 8 .any (Rows.fnMovesSpec.pre6 enc Try.prog Try.f8 Rows.fnMovesRow.domain false) (Rows.fnMovesSpec.post enc Try.prog Try.f8 false true false false) := by
  refine returnsInHanded_of_change_sized (C := Try.checked) own started (by kernel_rfl) Try.func8
    (ChangeSpec.witness6 (enc := enc) (C := Try.checked) false ⟨#[], #[.agg #[.string ByteArray.empty, .int .i64 0], .int .i64 0, .int .i64 0], []⟩ 8 (by kernel_rfl) (by kernel_rfl) (by kernel_rfl) (by kernel_rfl)) ?_
  intro W base args ds gs before hval0 hW hcnd hsz0 _
  have hsz : (DataW.weightsEach Try.prog (Try.f8.params.toList ++ Rows.fnMovesSpec.plain.varTypes Try.prog) (ds ++ gs)).all (· ≤ reachBytes) = true := hsz0
  have hval : ∀ (j : Nat) t v, Try.f8.params[j]? = some t → args[j]? = some v → Value.okWide Try.prog W .any base t v := hval0
  have hW' := hW
  obtain ⟨p, q, hA0, hV, rfl, hfz, hnd⟩ := hW
  have hA : DataW.TrodAll enc Try.prog W 0 (fun _ => true) true Try.f8.params.toList args.toList ds p := hA0
  rw [Try.params8] at hA hval hsz
  obtain ⟨v0, vs0, d0, ds0, p0, q0, hargs, rfl, rfl, h0, r0⟩ := trodAll_cons hA
  obtain ⟨v1, vs1, d1, ds1, p1, q1, rfl, rfl, rfl, h1, r1⟩ := trodAll_cons r0
  obtain ⟨v2, vs2, d2, ds2, p2, q2, rfl, rfl, rfl, h2, r2⟩ := trodAll_cons r1
  obtain ⟨rfl, rfl, rfl⟩ := trodAll_nil r2
  obtain rfl : args = #[v0, v1, v2] := by cases args; simp_all
  obtain ⟨rfl, rfl⟩ := trodVars_none hV
  obtain ⟨u0, x0, y0, z0, nf0, rfl, rfl, rfl, g0, k0⟩ := Go.Joins.open_agg2 Try.underlying47 (by kernel_rfl) (by kernel_rfl) (hval 0 47 v0 rfl rfl) h0
  obtain ⟨a0, ea0, rfl, w0⟩ := DataW.trod_string Try.underlying9 g0
  obtain rfl : u0 = .string a0 := by simpa using ea0
  obtain ⟨b0, eb0, rfl, z0w⟩ := DataW.trod_int Try.underlying3 k0
  obtain rfl : x0 = .int .i64 b0 := by simpa using eb0
  obtain ⟨a1, rfl, rfl, rfl, w1⟩ := open_int Try.underlying3 (hval 1 3 v1 rfl rfl) h1
  obtain ⟨a2, rfl, rfl, rfl, w2⟩ := open_int Try.underlying3 (hval 2 3 v2 rfl rfl) h2
  clear hA0 hval0 hsz0 hsz
  refine (lawMoves_any a0 b0 a1 a2 W (Nat.le_of_lt_succ (Nat.lt_succ_of_le w0)) z0w w1 w2).mono fun e W' ⟨he, bel⟩ => ?_
  subst he
  exact ⟨_, rfl, _, _, _, [], _, [], hW', trodAll_mk1 (shut_bool Try.underlying4 _), (trodAll_cons_mk (Go.Joins.shut_agg2 (y0 := (.lit (.string a0.data.toList), [])) (y1 := (.lit (.int .i64 b0), [])) Try.underlying47 (by kernel_rfl) (by kernel_rfl) ⟨1, by simp [DataW.trod, show Try.checked.prog.underlying 9 = some .string from Try.underlying9, w0]⟩ ⟨1, by simp [DataW.trod, show Try.checked.prog.underlying 3 = some (.int .i64) from Try.underlying3, z0w]⟩) (trodAll_cons_mk (shut_int Try.underlying3 w1) (trodAll_cons_mk (shut_int Try.underlying3 w2) trodAll_mk0))), rfl, bel.frame _, fun h => by cases h⟩
theorem over : Rows.fnMovesRow.holds Try.pinned (OpenSpec.ofChange Rows.fnMovesSpec) :=
  OpenClaim.holds_of_wide 8 Try.f8 rfl rfl rfl rfl rfl rfl rfl ⟨rfl, rfl, rfl, rfl, rfl⟩ rfl rfl rfl rfl rfl (by kernel_rfl) Try.func8 (by kernel_rfl)
    (of_decide_eq_true (by kernel_rfl)) (by unfold Func.isWrapper; first | (rw [if_pos (by decide +kernel)]; kernel_rfl) | (rw [if_neg (by decide +kernel)]; exact ⟨rfl, rfl⟩))
    (fun os started H enc _ => lifted os started H enc)
end Go.Proofs.Ytbkdppfjmfepiaa.fnMoves
namespace Go.Proofs.Ytbkdppfjmfepiaa
theorem fnMoves_holds : Rows.FnMovesSaid := fnMoves.over
#print axioms fnMoves_holds
end Go.Proofs.Ytbkdppfjmfepiaa
