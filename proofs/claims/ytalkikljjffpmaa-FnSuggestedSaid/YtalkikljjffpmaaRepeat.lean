/- strings.Repeat of a blank at this program, by the contract of the shelf (the laying was written by the kit's own tools at seat b's numbers). -/
import Derived.Shelf.Strings.Repeat
import Derived.Test.YtalkikljjffpmaaProg
import Derived.Test.YtalkikljjffpmaaDocP
namespace Go.Proofs
open Go.Shelf
def Try.lays105_ren : Go.Shelf.Ren := ⟨fun | 105 => 21 | 212 => 26 | 99 => 27 | 165 => 28 | 166 => 29 | 170 => 30 | 169 => 31 | 263 => 32 | 264 => 33 | 206 => 34 | 240 => 35 | 241 => 36 | 276 => 37 | 277 => 38 | n => n, fun | 9 => 9 | 3 => 3 | 4 => 4 | 20 => 20 | 0 => 0 | 46 => 50 | 109 => 51 | 5 => 5 | 72 => 57 | 76 => 61 | 51 => 65 | 146 => 66 | 53 => 68 | 148 => 69 | 70 => 54 | 37 => 55 | 75 => 60 | 127 => 71 | 164 => 72 | 80 => 64 | n => n, fun | n => n⟩
theorem Try.lays105 : Go.Proofs.Lays.n105 Try.prog Try.lays105_ren := {
  mixed := by kernel_rfl
  f99 := Try.func27.trans (congrArg some (by kernel_rfl))
  f105 := Try.func21.trans (congrArg some (by kernel_rfl))
  f165 := Try.func28.trans (congrArg some (by kernel_rfl))
  f166 := Try.func29.trans (congrArg some (by kernel_rfl))
  f169 := Try.func31.trans (congrArg some (by kernel_rfl))
  f170 := Try.func30.trans (congrArg some (by kernel_rfl))
  f206 := Try.func34.trans (congrArg some (by kernel_rfl))
  f212 := Try.func26.trans (congrArg some (by kernel_rfl))
  f240 := Try.func35.trans (congrArg some (by kernel_rfl))
  f241 := Try.func36.trans (congrArg some (by kernel_rfl))
  f263 := Try.func32.trans (congrArg some (by kernel_rfl))
  f264 := Try.func33.trans (congrArg some (by kernel_rfl))
  f276 := Try.func37.trans (congrArg some (by kernel_rfl))
  f277 := Try.func38.trans (congrArg some (by kernel_rfl))
  t0 := Try.underlying0
  a0 := Try.isAgg0
  z0 := Try.sizeOf0
  v0 := Try.zeroValue0
  t3 := Try.underlying3
  a3 := Try.isAgg3
  z3 := Try.sizeOf3
  v3 := Try.zeroValue3
  t4 := Try.underlying4
  a4 := Try.isAgg4
  z4 := Try.sizeOf4
  v4 := Try.zeroValue4
  t5 := Try.underlying5
  a5 := Try.isAgg5
  z5 := Try.sizeOf5
  v5 := Try.zeroValue5
  t9 := Try.underlying9
  a9 := Try.isAgg9
  z9 := Try.sizeOf9
  v9 := Try.zeroValue9
  t20 := Try.underlying20
  a20 := Try.isAgg20
  z20 := Try.sizeOf20
  v20 := Try.zeroValue20
  t37 := Try.underlying55
  a37 := Try.isAgg55
  z37 := Try.sizeOf55
  v37 := Try.zeroValue55
  t46 := Try.underlying50
  a46 := Try.isAgg50
  z46 := Try.sizeOf50
  v46 := Try.zeroValue50
  t51 := Try.underlying65
  a51 := Try.isAgg65
  z51 := Try.sizeOf65
  v51 := Try.zeroValue65
  t53 := Try.underlying68
  a53 := Try.isAgg68
  z53 := Try.sizeOf68
  v53 := Try.zeroValue68
  t70 := Try.underlying54
  a70 := Try.isAgg54
  z70 := Try.sizeOf54
  v70 := Try.zeroValue54
  t72 := Try.underlying57
  a72 := Try.isAgg57
  z72 := Try.sizeOf57
  v72 := Try.zeroValue57
  t75 := Try.underlying60
  a75 := Try.isAgg60
  z75 := Try.sizeOf60
  v75 := Try.zeroValue60
  t76 := Try.underlying61
  a76 := Try.isAgg61
  z76 := Try.sizeOf61
  v76 := Try.zeroValue61
  t109 := Try.underlying51
  a109 := Try.isAgg51
  z109 := Try.sizeOf51
  v109 := Try.zeroValue51
  t127 := Try.underlying71
  a127 := Try.isAgg71
  z127 := Try.sizeOf71
  v127 := Try.zeroValue71
  t146 := Try.underlying66
  a146 := Try.isAgg66
  z146 := Try.sizeOf66
  v146 := Try.zeroValue66
  t148 := Try.underlying69
  a148 := Try.isAgg69
  z148 := Try.sizeOf69
  v148 := Try.zeroValue69
  t164 := Try.underlying72
  a164 := Try.isAgg72
  z164 := Try.sizeOf72
  v164 := Try.zeroValue72 }
theorem Try.Builder_Extra_105 : Builder.Extra Try.prog Try.lays105_ren := {
  sizeBuilder := by kernel_rfl
  liesBuilder := by kernel_rfl
  t5 := Try.underlying5
  a5 := Try.isAgg5
  z5 := Try.sizeOf5
  v5 := Try.zeroValue5
  infoByte := by kernel_rfl
  cellsByte := by kernel_rfl
  sizeByte := by kernel_rfl
  neB5 := by decide }
namespace Ytalkikljjffpmaa
open Go.RowKit
theorem repeatL_one : ∀ c, Lib.repeatL [32] c = List.replicate c (32 : UInt8)
  | 0 => rfl
  | c + 1 => by unfold Lib.repeatL; rw [repeatL_one c, List.replicate_succ]; rfl
theorem rep_any (c : Nat) (w : World) (hc : c ≤ 1000000) : Calls Try.prog 21 #[.string ⟨#[32]⟩, .int .i64 c] w fun e w' => e = .returned (.string (tx (List.replicate c 32))) ∧ Old w w' := by
  have h1 : (⟨#[32]⟩ : ByteArray).size = 1 := rfl
  refine (Any.strings_Repeat Try.lays105 Try.Builder_Extra_105 ⟨#[32]⟩ c w (by omega) (by rw [h1]; omega)).mono ?_
  rintro e w' ⟨rfl, h⟩
  refine ⟨?_, h⟩
  rw [← repeatL_one]; rfl
end Ytalkikljjffpmaa
end Go.Proofs
