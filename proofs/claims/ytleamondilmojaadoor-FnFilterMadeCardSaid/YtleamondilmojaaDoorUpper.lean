/- strings.ToUpper at this program, by the contract of the shelf (the laying was written by the kit's own tools at seat xd's numbers). -/
import Derived.Shelf.Strings.OnBuilder
import Derived.Test.YtleamondilmojaaDoorProg
import Derived.Test.YtleamondilmojaaDoorDocP
namespace Go.Proofs
open Go.Shelf
def Tryd.lays158_ren : Go.Shelf.Ren := ⟨fun | 158 => 76 | 165 => 99 | 166 => 100 | 167 => 101 | 169 => 102 | 230 => 103 | 203 => 104 | 240 => 125 | 241 => 126 | 197 => 75 | 118 => 127 | 168 => 128 | 270 => 129 | 262 => 130 | 276 => 137 | 277 => 138 | 260 => 98 | 242 => 139 | 313 => 140 | 278 => 144 | 274 => 145 | 275 => 146 | n => n, fun | 9 => 9 | 4 => 4 | 3 => 3 | 5 => 5 | 72 => 106 | 0 => 0 | 76 => 109 | 75 => 108 | 107 => 113 | 70 => 103 | 20 => 20 | 37 => 104 | 127 => 124 | 21 => 21 | 105 => 74 | 164 => 131 | 162 => 137 | 203 => 135 | 119 => 120 | 46 => 89 | 139 => 123 | 138 => 122 | 51 => 68 | 160 => 140 | 208 => 149 | 206 => 147 | 80 => 64 | n => n, fun | 13 => 3 | 3 => 0 | 4 => 1 | n => n⟩
theorem Tryd.lays158 : Go.Proofs.Lays.n158 Tryd.prog Tryd.lays158_ren := {
  mixed := by kernel_rfl
  f118 := Tryd.func127.trans (congrArg some (by kernel_rfl))
  f158 := Tryd.func76.trans (congrArg some (by kernel_rfl))
  f165 := Tryd.func99.trans (congrArg some (by kernel_rfl))
  f166 := Tryd.func100.trans (congrArg some (by kernel_rfl))
  f167 := Tryd.func101.trans (congrArg some (by kernel_rfl))
  f168 := Tryd.func128.trans (congrArg some (by kernel_rfl))
  f169 := Tryd.func102.trans (congrArg some (by kernel_rfl))
  f197 := Tryd.func75.trans (congrArg some (by kernel_rfl))
  f203 := Tryd.func104.trans (congrArg some (by kernel_rfl))
  f230 := Tryd.func103.trans (congrArg some (by kernel_rfl))
  f240 := Tryd.func125.trans (congrArg some (by kernel_rfl))
  f241 := Tryd.func126.trans (congrArg some (by kernel_rfl))
  f242 := Tryd.func139.trans (congrArg some (by kernel_rfl))
  f260 := Tryd.func98.trans (congrArg some (by kernel_rfl))
  f262 := Tryd.func130.trans (congrArg some (by kernel_rfl))
  f270 := Tryd.func129.trans (congrArg some (by kernel_rfl))
  f274 := Tryd.func145.trans (congrArg some (by kernel_rfl))
  f275 := Tryd.func146.trans (congrArg some (by kernel_rfl))
  f276 := Tryd.func137.trans (congrArg some (by kernel_rfl))
  f277 := Tryd.func138.trans (congrArg some (by kernel_rfl))
  f278 := Tryd.func144.trans (congrArg some (by kernel_rfl))
  f313 := Tryd.func140.trans (congrArg some (by kernel_rfl))
  t0 := Tryd.underlying0
  a0 := Tryd.isAgg0
  z0 := Tryd.sizeOf0
  v0 := Tryd.zeroValue0
  t3 := Tryd.underlying3
  a3 := Tryd.isAgg3
  z3 := Tryd.sizeOf3
  v3 := Tryd.zeroValue3
  t4 := Tryd.underlying4
  a4 := Tryd.isAgg4
  z4 := Tryd.sizeOf4
  v4 := Tryd.zeroValue4
  t5 := Tryd.underlying5
  a5 := Tryd.isAgg5
  z5 := Tryd.sizeOf5
  v5 := Tryd.zeroValue5
  t9 := Tryd.underlying9
  a9 := Tryd.isAgg9
  z9 := Tryd.sizeOf9
  v9 := Tryd.zeroValue9
  t20 := Tryd.underlying20
  a20 := Tryd.isAgg20
  z20 := Tryd.sizeOf20
  v20 := Tryd.zeroValue20
  t21 := Tryd.underlying21
  a21 := Tryd.isAgg21
  z21 := Tryd.sizeOf21
  v21 := Tryd.zeroValue21
  t37 := Tryd.underlying104
  a37 := Tryd.isAgg104
  z37 := Tryd.sizeOf104
  v37 := Tryd.zeroValue104
  t46 := Tryd.underlying89
  a46 := Tryd.isAgg89
  z46 := Tryd.sizeOf89
  v46 := Tryd.zeroValue89
  t51 := Tryd.underlying68
  a51 := Tryd.isAgg68
  z51 := Tryd.sizeOf68
  v51 := Tryd.zeroValue68
  t70 := Tryd.underlying103
  a70 := Tryd.isAgg103
  z70 := Tryd.sizeOf103
  v70 := Tryd.zeroValue103
  t72 := Tryd.underlying106
  a72 := Tryd.isAgg106
  z72 := Tryd.sizeOf106
  v72 := Tryd.zeroValue106
  t75 := Tryd.underlying108
  a75 := Tryd.isAgg108
  z75 := Tryd.sizeOf108
  v75 := Tryd.zeroValue108
  t76 := Tryd.underlying109
  a76 := Tryd.isAgg109
  z76 := Tryd.sizeOf109
  v76 := Tryd.zeroValue109
  t105 := Tryd.underlying74
  a105 := Tryd.isAgg74
  z105 := Tryd.sizeOf74
  v105 := Tryd.zeroValue74
  t107 := Tryd.underlying113
  a107 := Tryd.isAgg113
  z107 := Tryd.sizeOf113
  v107 := Tryd.zeroValue113
  t119 := Tryd.underlying120
  a119 := Tryd.isAgg120
  z119 := Tryd.sizeOf120
  t127 := Tryd.underlying124
  a127 := Tryd.isAgg124
  z127 := Tryd.sizeOf124
  v127 := Tryd.zeroValue124
  t138 := Tryd.underlying122
  a138 := Tryd.isAgg122
  z138 := Tryd.sizeOf122
  v138 := Tryd.zeroValue122
  t139 := Tryd.underlying123
  a139 := Tryd.isAgg123
  z139 := Tryd.sizeOf123
  v139 := Tryd.zeroValue123
  t160 := Tryd.underlying140
  a160 := Tryd.isAgg140
  z160 := Tryd.sizeOf140
  v160 := Tryd.zeroValue140
  t162 := Tryd.underlying137
  a162 := Tryd.isAgg137
  z162 := Tryd.sizeOf137
  v162 := Tryd.zeroValue137
  t164 := Tryd.underlying131
  a164 := Tryd.isAgg131
  z164 := Tryd.sizeOf131
  v164 := Tryd.zeroValue131
  t203 := Tryd.underlying135
  a203 := Tryd.isAgg135
  z203 := Tryd.sizeOf135
  v203 := Tryd.zeroValue135
  t206 := Tryd.underlying147
  a206 := Tryd.isAgg147
  z206 := Tryd.sizeOf147
  v206 := Tryd.zeroValue147
  t208 := Tryd.underlying149
  a208 := Tryd.isAgg149
  z208 := Tryd.sizeOf149
  v208 := Tryd.zeroValue149
  g3 := by kernel_rfl
  g4 := by kernel_rfl
  g13 := by kernel_rfl }
theorem Tryd.Builder_Extra_158 : Builder.Extra Tryd.prog Tryd.lays158_ren := {
  sizeBuilder := by kernel_rfl
  liesBuilder := by kernel_rfl
  t5 := Tryd.underlying5
  a5 := Tryd.isAgg5
  z5 := Tryd.sizeOf5
  v5 := Tryd.zeroValue5
  infoByte := by kernel_rfl
  cellsByte := by kernel_rfl
  sizeByte := by kernel_rfl
  neB5 := by decide }
open Go.RowKit in
/-- strings.ToUpper on ASCII. -/
theorem Tryd.strings_ToUpper_ascii (s : ByteArray) (w : World) (hs : s.size ≤ 140737488355328) (hascii : ∀ (j : Nat) (b : UInt8), s.data.toList[j]? = some b → b.toNat < 128) :
    Calls Tryd.prog 76 #[.string s] w fun e w' => e = .returned (.string ⟨(Lib.toUpperA s.data.toList).toArray⟩) ∧ Below w.heap.size w w' := Any.strings_ToUpper_ascii Tryd.lays158 Tryd.Builder_Extra_158 s w hs hascii
namespace YtleamondilmojaaDoor
open Go.RowKit
def upB (l : Bs) : Bs := Lib.toUpperA l
theorem upB_app (a b : Bs) : upB (a ++ b) = upB a ++ upB b := by simp [upB, Lib.toUpperA]
theorem upB_len (a : Bs) : (upB a).length = a.length := by simp [upB, Lib.toUpperA]
theorem upB_asc {a : Bs} (h : okT a) : okT (upB a) := by
  refine ⟨fun c hc => ?_, by rw [upB_len]; exact h.n⟩
  simp only [upB, Lib.toUpperA, List.mem_map] at hc
  obtain ⟨d, hd, rfl⟩ := hc
  have := h.a d hd
  unfold Lib.upperB
  split
  · rename_i h1
    have h2 : 97 ≤ d.toNat := by simp [Lib.isLowerB, UInt8.le_iff_toNat_le] at h1; omega
    rw [UInt8.toNat_sub]
    simp only [UInt8.reduceToNat]
    omega
  · exact this
theorem up_any (l : Bs) (w : World) (ok : okT l) : Calls Tryd.prog 76 #[.string (tx l)] w fun e w' => e = .returned (.string (tx (upB l))) ∧ Old w w' := by
  refine (Tryd.strings_ToUpper_ascii (tx l) w (by rw [tx_size]; have := ok.n; omega) (fun j b hb => ok.a b (List.mem_of_getElem? hb))).mono ?_
  rintro e w' ⟨rfl, h⟩
  exact ⟨rfl, h⟩
end YtleamondilmojaaDoor
end Go.Proofs
