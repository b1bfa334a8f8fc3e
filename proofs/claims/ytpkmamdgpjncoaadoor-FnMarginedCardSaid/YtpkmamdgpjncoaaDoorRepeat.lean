/- strings.Repeat of a blank at this program, by the contract of the shelf (the laying was written by the kit's own tools at seat b's numbers). -/
import Derived.Shelf.Strings.Repeat
import Derived.Test.YtpkmamdgpjncoaaDoorProg
import Derived.Test.YtpkmamdgpjncoaaDoorDocP
namespace Go.Proofs
open Go.Shelf
def Tryd.lays105_ren : Go.Shelf.Ren := ⟨fun | 105 => 67 | 212 => 78 | 99 => 79 | 165 => 80 | 166 => 81 | 170 => 82 | 169 => 83 | 263 => 89 | 264 => 90 | 206 => 91 | 240 => 92 | 241 => 93 | 276 => 95 | 277 => 96 | n => n, fun | 9 => 9 | 3 => 3 | 4 => 4 | 20 => 20 | 0 => 0 | 46 => 24 | 109 => 98 | 5 => 5 | 72 => 103 | 76 => 47 | 51 => 91 | 146 => 110 | 53 => 112 | 148 => 113 | 70 => 101 | 37 => 49 | 75 => 46 | 127 => 115 | 164 => 116 | 80 => 51 | n => n, fun | n => n⟩
theorem Tryd.lays105 : Go.Proofs.Lays.n105 Tryd.prog Tryd.lays105_ren := {
  mixed := by kernel_rfl
  f99 := Tryd.func79.trans (congrArg some (by kernel_rfl))
  f105 := Tryd.func67.trans (congrArg some (by kernel_rfl))
  f165 := Tryd.func80.trans (congrArg some (by kernel_rfl))
  f166 := Tryd.func81.trans (congrArg some (by kernel_rfl))
  f169 := Tryd.func83.trans (congrArg some (by kernel_rfl))
  f170 := Tryd.func82.trans (congrArg some (by kernel_rfl))
  f206 := Tryd.func91.trans (congrArg some (by kernel_rfl))
  f212 := Tryd.func78.trans (congrArg some (by kernel_rfl))
  f240 := Tryd.func92.trans (congrArg some (by kernel_rfl))
  f241 := Tryd.func93.trans (congrArg some (by kernel_rfl))
  f263 := Tryd.func89.trans (congrArg some (by kernel_rfl))
  f264 := Tryd.func90.trans (congrArg some (by kernel_rfl))
  f276 := Tryd.func95.trans (congrArg some (by kernel_rfl))
  f277 := Tryd.func96.trans (congrArg some (by kernel_rfl))
  t0 := Tryd.underlying0
  a0 := Tryd.isAgg0
  z0 := Tryd.sizeOf0
  v0 := Tryd.zeroValue0
  t3 := Tryd.underlying3
  a3 := Tryd.isAgg3
  z3 := Tryd.sizeOf3
  v3 := Tryd.zeroValue3
  t4 := Tryd.underlying4
  a4 := Tryd.isAgg4
  z4 := Tryd.sizeOf4
  v4 := Tryd.zeroValue4
  t5 := Tryd.underlying5
  a5 := Tryd.isAgg5
  z5 := Tryd.sizeOf5
  v5 := Tryd.zeroValue5
  t9 := Tryd.underlying9
  a9 := Tryd.isAgg9
  z9 := Tryd.sizeOf9
  v9 := Tryd.zeroValue9
  t20 := Tryd.underlying20
  a20 := Tryd.isAgg20
  z20 := Tryd.sizeOf20
  v20 := Tryd.zeroValue20
  t37 := Tryd.underlying49
  a37 := Tryd.isAgg49
  z37 := Tryd.sizeOf49
  v37 := Tryd.zeroValue49
  t46 := Tryd.underlying24
  a46 := Tryd.isAgg24
  z46 := Tryd.sizeOf24
  v46 := Tryd.zeroValue24
  t51 := Tryd.underlying91
  a51 := Tryd.isAgg91
  z51 := Tryd.sizeOf91
  v51 := Tryd.zeroValue91
  t53 := Tryd.underlying112
  a53 := Tryd.isAgg112
  z53 := Tryd.sizeOf112
  v53 := Tryd.zeroValue112
  t70 := Tryd.underlying101
  a70 := Tryd.isAgg101
  z70 := Tryd.sizeOf101
  v70 := Tryd.zeroValue101
  t72 := Tryd.underlying103
  a72 := Tryd.isAgg103
  z72 := Tryd.sizeOf103
  v72 := Tryd.zeroValue103
  t75 := Tryd.underlying46
  a75 := Tryd.isAgg46
  z75 := Tryd.sizeOf46
  v75 := Tryd.zeroValue46
  t76 := Tryd.underlying47
  a76 := Tryd.isAgg47
  z76 := Tryd.sizeOf47
  v76 := Tryd.zeroValue47
  t109 := Tryd.underlying98
  a109 := Tryd.isAgg98
  z109 := Tryd.sizeOf98
  v109 := Tryd.zeroValue98
  t127 := Tryd.underlying115
  a127 := Tryd.isAgg115
  z127 := Tryd.sizeOf115
  v127 := Tryd.zeroValue115
  t146 := Tryd.underlying110
  a146 := Tryd.isAgg110
  z146 := Tryd.sizeOf110
  v146 := Tryd.zeroValue110
  t148 := Tryd.underlying113
  a148 := Tryd.isAgg113
  z148 := Tryd.sizeOf113
  v148 := Tryd.zeroValue113
  t164 := Tryd.underlying116
  a164 := Tryd.isAgg116
  z164 := Tryd.sizeOf116
  v164 := Tryd.zeroValue116 }
theorem Tryd.Builder_Extra_105 : Builder.Extra Tryd.prog Tryd.lays105_ren := {
  sizeBuilder := by kernel_rfl
  liesBuilder := by kernel_rfl
  t5 := Tryd.underlying5
  a5 := Tryd.isAgg5
  z5 := Tryd.sizeOf5
  v5 := Tryd.zeroValue5
  infoByte := by kernel_rfl
  cellsByte := by kernel_rfl
  sizeByte := by kernel_rfl
  neB5 := by decide }
namespace YtpkmamdgpjncoaaDoor
open Go.RowKit
theorem repeatL_one : ∀ c, Lib.repeatL [32] c = List.replicate c (32 : UInt8)
  | 0 => rfl
  | c + 1 => by unfold Lib.repeatL; rw [repeatL_one c, List.replicate_succ]; rfl
theorem rep_any (c : Nat) (w : World) (hc : c ≤ 1000000) : Calls Tryd.prog 67 #[.string ⟨#[32]⟩, .int .i64 c] w fun e w' => e = .returned (.string (tx (List.replicate c 32))) ∧ Old w w' := by
  have h1 : (⟨#[32]⟩ : ByteArray).size = 1 := rfl
  refine (Any.strings_Repeat Tryd.lays105 Tryd.Builder_Extra_105 ⟨#[32]⟩ c w (by omega) (by rw [h1]; omega)).mono ?_
  rintro e w' ⟨rfl, h⟩
  refine ⟨?_, h⟩
  rw [← repeatL_one]; rfl
end YtpkmamdgpjncoaaDoor
end Go.Proofs
