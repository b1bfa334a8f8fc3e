/- FnLineEnds: at a line's beginning the column is 0, at its end nothing of the line stands behind the cursor; neither changes the text, nor the row, for every document. -/
import Derived.Test.YtleamondilmojaaDoorTie
import Derived.Test.YtleamondilmojaaDoorCards
import Derived.LaidMore
import Derived.Lay
import Derived.SevenTiedAt
import Derived.Stop.Joined
import Derived.Test.YtleamondilmojaaDoorRows
import Derived.Test.YtleamondilmojaaDoorLawLE
import Derived.WalkKit
import Derived.ProofKit
import Derived.OpenShut
import Derived.ShutString
import Derived.ChangeOld
import Derived.Below
import Derived.SizedLaws
import Derived.Lib.SmallJoins
namespace Go.Proofs.YtleamondilmojaaDoor.fnLineEnds
open Go.ChangeShapes Go.WideShapes Go.ChangeAt Go.RowKit
open Go.ChangeMaps (open_string shut_string)
set_option linter.unusedVariables false
theorem own : ownKnob Tryd.prog.godebug = none := by kernel_rfl
set_option maxRecDepth 100000 in
theorem lifted (os : Os) (started : os.Started) (H : Type) (enc : TypeId × Value → H) :
    ReturnsInHanded {} Tryd.checked os 9 .any (fun w args => (Rows.fnLineEndsSpec.pre enc Tryd.prog Tryd.f9 Rows.fnLineEndsRow.domain false w args ∧ laidMetH Tryd.prog Rows.fnLineEndsRow.laid w) ∧ sizedMet enc Tryd.prog Tryd.f9 (OpenSpec.ofChange Rows.fnLineEndsSpec) false w args) (Rows.fnLineEndsSpec.post enc Tryd.prog Tryd.f9 false true false false) := by
  refine returnsInHanded_of_change_and (C := Tryd.checked) (X := fun w _ => laidMetH Tryd.prog Rows.fnLineEndsRow.laid w) (fun _ _ _ hh h => h.of_heap hh) own started (by kernel_rfl) Tryd.func9
    (ChangeSpec.witness_shaped (enc := enc) (C := Tryd.checked) (os := os) (X := fun w _ => laidMetH Tryd.prog Rows.fnLineEndsRow.laid w) false (World.laidAll Tryd.prog os Rows.fnLineEndsRow.laid) #[.agg #[.string ByteArray.empty, .int .i64 0]] 8 (World.laidAll_os _ _ _)
      (World.shaped_of_ZipB (by kernel_rfl) (by kernel_rfl)) (by kernel_rfl) (by kernel_rfl) (by kernel_rfl)
      (by rw [MakeChecks.laidMetH_plain _ _ _ (by kernel_rfl)]; exact laidMet_laidAll _ (by kernel_rfl) (by kernel_rfl))) ?_
  intro W base args ds gs before hval0 hW hcnd hsz0 hL _
  have hsz : (DataW.weightsEach Tryd.prog (Tryd.f9.params.toList ++ Rows.fnLineEndsSpec.plain.varTypes Tryd.prog) (ds ++ gs)).all (· ≤ reachBytes) = true := hsz0
  have hval : ∀ (j : Nat) t v, Tryd.f9.params[j]? = some t → args[j]? = some v → Value.okWide Tryd.prog W .any base t v := hval0
  have hW' := hW
  obtain ⟨p, q, hA0, hV, rfl, hfz, hnd⟩ := hW
  have hA : DataW.TrodAll enc Tryd.prog W 0 (fun _ => true) true Tryd.f9.params.toList args.toList ds p := hA0
  rw [Tryd.params9] at hA hval hsz
  obtain ⟨v0, vs0, d0, ds0, p0, q0, hargs, rfl, rfl, h0, r0⟩ := trodAll_cons hA
  obtain ⟨rfl, rfl, rfl⟩ := trodAll_nil r0
  obtain rfl : args = #[v0] := by cases args; simp_all
  obtain ⟨rfl, rfl⟩ := trodVars_none hV
  obtain ⟨u0, x0, y0, z0, nf0, rfl, rfl, rfl, g0, k0⟩ := Go.Joins.open_agg2 Tryd.underlying34 (by kernel_rfl) (by kernel_rfl) (hval 0 34 v0 rfl rfl) h0
  obtain ⟨a0, ea0, rfl, w0⟩ := DataW.trod_string Tryd.underlying9 g0
  obtain rfl : u0 = .string a0 := by simpa using ea0
  obtain ⟨b0, eb0, rfl, z0w⟩ := DataW.trod_int Tryd.underlying3 k0
  obtain rfl : x0 = .int .i64 b0 := by simpa using eb0
  clear hA0 hval0 hsz0 hsz
  refine (lawLE_any a0 b0 W (Nat.le_of_lt_succ (Nat.lt_succ_of_le w0)) z0w).mono fun e W' ⟨he, bel⟩ => ?_
  subst he
  exact ⟨_, rfl, _, _, _, [], _, [], hW', trodAll_mk1 (shut_bool Tryd.underlying4 _), (trodAll_cons_mk (Go.Joins.shut_agg2 (y0 := (.lit (.string a0.data.toList), [])) (y1 := (.lit (.int .i64 b0), [])) Tryd.underlying34 (by kernel_rfl) (by kernel_rfl) ⟨1, by simp [DataW.trod, show Tryd.checked.prog.underlying 9 = some .string from Tryd.underlying9, w0]⟩ ⟨1, by simp [DataW.trod, show Tryd.checked.prog.underlying 3 = some (.int .i64) from Tryd.underlying3, z0w]⟩) trodAll_mk0), rfl, bel.frame _, fun h => by cases h⟩
theorem over : Rows.fnLineEndsRow.holds Tryd.pinned (OpenSpec.ofChange Rows.fnLineEndsSpec) :=
  OpenClaim.holds_of_wide 9 Tryd.f9 rfl rfl rfl rfl rfl rfl rfl ⟨rfl, rfl, rfl, rfl, rfl⟩ rfl rfl rfl rfl rfl (by kernel_rfl) Tryd.func9 (by kernel_rfl)
    (of_decide_eq_true (by kernel_rfl)) (by unfold Func.isWrapper; first | (rw [if_pos (by decide +kernel)]; kernel_rfl) | (rw [if_neg (by decide +kernel)]; exact ⟨rfl, rfl⟩))
    (fun os started H enc _ => lifted os started H enc)
end Go.Proofs.YtleamondilmojaaDoor.fnLineEnds
namespace Go.Proofs.YtleamondilmojaaDoor
theorem fnLineEnds_holds : Rows.FnLineEndsSaid := fnLineEnds.over
#print axioms fnLineEnds_holds
theorem fnLineEnds_card_holds : Rows.FnLineEndsCardSaid :=
  Claim7.holds_tied_plain_at .later [] [.data, .listed, .data, .pinned] true (true, "1229cb660be66a9b5a4ef77a5295d6cb831c462f4caf158a3318d63acd2a7af1") false fnLineEnds_holds (fun _ h => by cases h) (by kernel_rfl) (fun _ h => by cases h) fnLineEnds_row_tie rfl ⟨rfl, rfl⟩ (by kernel_rfl) rfl
    (fun f fn hf hfn => by
      obtain rfl : f = 9 := Option.some.inj ((show Tryd.prog.funcNamed "given.example/pub-typebar/laws.FnLineEnds" = some 9 by kernel_rfl).symm.trans hf) |>.symm
      obtain rfl : fn = Tryd.f9 := (Option.some.inj (Tryd.func9.symm.trans hfn)).symm
      exact ⟨by kernel_rfl, fun j t ht => by
        rw [Tryd.params9] at ht
        have hm : t ∈ [34] := by simpa using Array.mem_of_getElem? ht
        have hall : ([34].all fun u => !Tryd.prog.wantsStandIn u) = true := by kernel_rfl
        exact (show Tryd.prog.wantsStandIn t = false by simpa using List.all_eq_true.1 hall t hm)⟩)
    (by kernel_rfl)
#print axioms fnLineEnds_card_holds
end Go.Proofs.YtleamondilmojaaDoor
