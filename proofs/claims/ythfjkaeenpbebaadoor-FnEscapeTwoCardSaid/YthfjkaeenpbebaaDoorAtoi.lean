/- strconv.Atoi at this program, by the contracts of the shelf (the laying was written by the kit's own tool at seat ad's numbers). -/
import Derived.Shelf.LaysC
import Derived.Shelf.Strconv.AtoiAll
import Derived.Test.YthfjkaeenpbebaaDoorProg
import Derived.Test.YthfjkaeenpbebaaDoorBase
import Derived.Below
namespace Go.Proofs
open Go.Shelf
def Tryd.laysC172_ren : Go.Shelf.Ren := ⟨fun | 172 => 42 | 244 => 52 | 245 => 53 | 247 => 61 | 279 => 62 | 280 => 63 | 281 => 64 | 282 => 65 | 287 => 72 | 316 => 73 | 171 => 75 | 205 => 74 | 321 => 82 | 322 => 83 | 243 => 84 | 246 => 89 | 283 => 93 | 284 => 94 | 285 => 95 | 286 => 96 | 129 => 98 | 317 => 97 | 318 => 99 | 319 => 100 | 320 => 101 | 337 => 102 | 338 => 103 | n => n, fun | 9 => 9 | 3 => 3 | 75 => 72 | 76 => 73 | 4 => 4 | 5 => 5 | 167 => 102 | 37 => 56 | 0 => 0 | 85 => 103 | 2 => 2 | 168 => 105 | 53 => 118 | 175 => 119 | 46 => 83 | 210 => 122 | 127 => 124 | 145 => 132 | 143 => 130 | 21 => 21 | 171 => 144 | 173 => 147 | 212 => 155 | 51 => 37 | 20 => 20 | 213 => 156 | 232 => 160 | 233 => 161 | 80 => 113 | n => n, fun | 15 => 3 | 16 => 4 | 17 => 7 | 18 => 8 | 19 => 9 | n => n⟩
theorem Tryd.laysC172 : Go.Proofs.LaysC.n172 Tryd.prog Tryd.laysC172_ren := {
  mixed := by kernel_rfl
  f129 := Tryd.func98.trans (congrArg some (by kernel_rfl))
  f171 := Tryd.func75.trans (congrArg some (by kernel_rfl))
  f172 := Tryd.func42.trans (congrArg some (by kernel_rfl))
  f205 := Tryd.func74.trans (congrArg some (by kernel_rfl))
  f243 := Tryd.func84.trans (congrArg some (by kernel_rfl))
  f244 := Tryd.func52.trans (congrArg some (by kernel_rfl))
  f245 := Tryd.func53.trans (congrArg some (by kernel_rfl))
  f246 := Tryd.func89.trans (congrArg some (by kernel_rfl))
  f247 := Tryd.func61.trans (congrArg some (by kernel_rfl))
  f279 := Tryd.func62.trans (congrArg some (by kernel_rfl))
  f280 := Tryd.func63.trans (congrArg some (by kernel_rfl))
  f281 := Tryd.func64.trans (congrArg some (by kernel_rfl))
  f282 := Tryd.func65.trans (congrArg some (by kernel_rfl))
  f283 := Tryd.func93.trans (congrArg some (by kernel_rfl))
  f284 := Tryd.func94.trans (congrArg some (by kernel_rfl))
  f285 := Tryd.func95.trans (congrArg some (by kernel_rfl))
  f286 := Tryd.func96.trans (congrArg some (by kernel_rfl))
  f287 := Tryd.func72.trans (congrArg some (by kernel_rfl))
  f316 := Tryd.func73.trans (congrArg some (by kernel_rfl))
  f317 := Tryd.func97.trans (congrArg some (by kernel_rfl))
  f318 := Tryd.func99.trans (congrArg some (by kernel_rfl))
  f319 := Tryd.func100.trans (congrArg some (by kernel_rfl))
  f320 := Tryd.func101.trans (congrArg some (by kernel_rfl))
  f321 := Tryd.func82.trans (congrArg some (by kernel_rfl))
  f322 := Tryd.func83.trans (congrArg some (by kernel_rfl))
  f337 := Tryd.func102.trans (congrArg some (by kernel_rfl))
  f338 := Tryd.func103.trans (congrArg some (by kernel_rfl))
  t0 := Tryd.underlying0
  a0 := Tryd.isAgg0
  z0 := Tryd.sizeOf0
  v0 := Tryd.zeroValue0
  t2 := Tryd.underlying2
  a2 := Tryd.isAgg2
  z2 := Tryd.sizeOf2
  v2 := Tryd.zeroValue2
  t3 := Tryd.underlying3
  a3 := Tryd.isAgg3
  z3 := Tryd.sizeOf3
  v3 := Tryd.zeroValue3
  t4 := Tryd.underlying4
  a4 := Tryd.isAgg4
  z4 := Tryd.sizeOf4
  v4 := Tryd.zeroValue4
  t5 := Tryd.underlying5
  a5 := Tryd.isAgg5
  z5 := Tryd.sizeOf5
  v5 := Tryd.zeroValue5
  t9 := Tryd.underlying9
  a9 := Tryd.isAgg9
  z9 := Tryd.sizeOf9
  v9 := Tryd.zeroValue9
  t20 := Tryd.underlying20
  a20 := Tryd.isAgg20
  z20 := Tryd.sizeOf20
  v20 := Tryd.zeroValue20
  t21 := Tryd.underlying21
  a21 := Tryd.isAgg21
  z21 := Tryd.sizeOf21
  v21 := Tryd.zeroValue21
  t37 := Tryd.underlying56
  a37 := Tryd.isAgg56
  z37 := Tryd.sizeOf56
  v37 := Tryd.zeroValue56
  t46 := Tryd.underlying83
  a46 := Tryd.isAgg83
  z46 := Tryd.sizeOf83
  v46 := Tryd.zeroValue83
  t51 := Tryd.underlying37
  a51 := Tryd.isAgg37
  z51 := Tryd.sizeOf37
  v51 := Tryd.zeroValue37
  t53 := Tryd.underlying118
  a53 := Tryd.isAgg118
  z53 := Tryd.sizeOf118
  v53 := Tryd.zeroValue118
  t75 := Tryd.underlying72
  a75 := Tryd.isAgg72
  z75 := Tryd.sizeOf72
  v75 := Tryd.zeroValue72
  t76 := Tryd.underlying73
  a76 := Tryd.isAgg73
  z76 := Tryd.sizeOf73
  v76 := Tryd.zeroValue73
  t85 := Tryd.underlying103
  a85 := Tryd.isAgg103
  z85 := Tryd.sizeOf103
  v85 := Tryd.zeroValue103
  t127 := Tryd.underlying124
  a127 := Tryd.isAgg124
  z127 := Tryd.sizeOf124
  v127 := Tryd.zeroValue124
  t143 := Tryd.underlying130
  a143 := Tryd.isAgg130
  z143 := Tryd.sizeOf130
  v143 := Tryd.zeroValue130
  t145 := Tryd.underlying132
  a145 := Tryd.isAgg132
  z145 := Tryd.sizeOf132
  v145 := Tryd.zeroValue132
  t167 := Tryd.underlying102
  a167 := Tryd.isAgg102
  z167 := Tryd.sizeOf102
  v167 := Tryd.zeroValue102
  t168 := Tryd.underlying105
  a168 := Tryd.isAgg105
  z168 := Tryd.sizeOf105
  v168 := Tryd.zeroValue105
  t171 := Tryd.underlying144
  a171 := Tryd.isAgg144
  z171 := Tryd.sizeOf144
  v171 := Tryd.zeroValue144
  t173 := Tryd.underlying147
  a173 := Tryd.isAgg147
  z173 := Tryd.sizeOf147
  v173 := Tryd.zeroValue147
  t175 := Tryd.underlying119
  a175 := Tryd.isAgg119
  z175 := Tryd.sizeOf119
  v175 := Tryd.zeroValue119
  t210 := Tryd.underlying122
  a210 := Tryd.isAgg122
  z210 := Tryd.sizeOf122
  v210 := Tryd.zeroValue122
  t212 := Tryd.underlying155
  a212 := Tryd.isAgg155
  z212 := Tryd.sizeOf155
  v212 := Tryd.zeroValue155
  t213 := Tryd.underlying156
  a213 := Tryd.isAgg156
  z213 := Tryd.sizeOf156
  t232 := Tryd.underlying160
  a232 := Tryd.isAgg160
  z232 := Tryd.sizeOf160
  v232 := Tryd.zeroValue160
  t233 := Tryd.underlying161
  a233 := Tryd.isAgg161
  z233 := Tryd.sizeOf161
  v233 := Tryd.zeroValue161
  g15 := by kernel_rfl
  g16 := by kernel_rfl
  g17 := by kernel_rfl
  g18 := by kernel_rfl
  g19 := by kernel_rfl
  t80 := Tryd.underlying113
  a80 := Tryd.isAgg113
  z80 := Tryd.sizeOf113
  v80 := Tryd.zeroValue113
  i0 := by kernel_rfl
  i2 := by kernel_rfl
  i3 := by kernel_rfl
  i4 := by kernel_rfl
  i5 := by kernel_rfl
  i9 := by kernel_rfl
  i20 := by kernel_rfl
  i21 := by kernel_rfl
  i37 := by kernel_rfl
  i46 := by kernel_rfl
  i51 := by kernel_rfl
  i53 := by kernel_rfl
  i75 := by kernel_rfl
  i76 := by kernel_rfl
  i80 := by kernel_rfl
  i85 := by kernel_rfl
  i127 := by kernel_rfl
  i143 := by kernel_rfl
  i145 := by kernel_rfl
  i167 := by kernel_rfl
  i168 := by kernel_rfl
  i171 := by kernel_rfl
  i173 := by kernel_rfl
  i175 := by kernel_rfl
  i210 := by kernel_rfl
  i212 := by kernel_rfl
  i232 := by kernel_rfl
  i233 := by kernel_rfl
  m15 := by kernel_rfl
  m16 := by kernel_rfl
  m17 := by kernel_rfl
  m18 := by kernel_rfl
  m19 := by kernel_rfl
  c0 := by kernel_rfl
  c2 := by kernel_rfl
  c3 := by kernel_rfl
  c4 := by kernel_rfl
  c5 := by kernel_rfl
  c9 := by kernel_rfl
  c20 := by kernel_rfl
  c21 := by kernel_rfl
  c37 := by kernel_rfl
  c46 := by kernel_rfl
  c51 := by kernel_rfl
  c53 := by kernel_rfl
  c75 := by kernel_rfl
  c76 := by kernel_rfl
  c80 := by kernel_rfl
  c85 := by kernel_rfl
  c127 := by kernel_rfl
  c143 := by kernel_rfl
  c145 := by kernel_rfl
  c167 := by kernel_rfl
  c168 := by kernel_rfl
  c171 := by kernel_rfl
  c173 := by kernel_rfl
  c175 := by kernel_rfl
  c210 := by kernel_rfl
  c212 := by kernel_rfl
  c213 := by kernel_rfl
  c232 := by kernel_rfl
  c233 := by kernel_rfl }
theorem Tryd.strconv_Atoi_ok (s : ByteArray) (hmax : s.size ≤ 9223372036854775806) (v : Int) (h : Lib.atoiAll s.data.toList = .ok v) (w : World) :
    Calls Tryd.prog 42 #[.string s] w fun e w' => e = .returned (.tuple #[.int .i64 v, .nilIface]) ∧ (w' = w ∨ ∃ t, w' = Lib.bytesWorld w 5 t) := Any.strconv_Atoi_ok Tryd.laysC172 s hmax v h w

end Go.Proofs
namespace Go.Proofs.YthfjkaeenpbebaaDoor
open Go.RowKit
theorem atoi_good (s : ByteArray) (hmax : s.size ≤ 100) (v : Int) (h : Lib.atoiAll s.data.toList = .ok v) (w : World) :
    Calls Tryd.prog 42 #[.string s] w fun e w' => e = .returned (.tuple #[.int .i64 v, .nilIface]) ∧ Old w w' := by
  refine (Tryd.strconv_Atoi_ok s (by omega) v h w).mono ?_
  rintro e w' ⟨rfl, h1⟩
  refine ⟨rfl, ?_⟩
  rcases h1 with rfl | ⟨t, rfl⟩
  · exact Old.refl _
  · exact Lib.bytesWorld_below _ _ _
theorem atoi_bad (s : ByteArray) (hlim : s.size ≤ 281474976710656) (h1 : ∀ v, Lib.atoiAll s.data.toList ≠ .ok v) (h2 : Lib.atoiAll s.data.toList ≠ .range) (ev : Value) (w : World) (hv : w.cell? ⟨3, 0, none⟩ = some ev) (hev : ev = .nilIface ∨ ∃ te pe, ev = .iface te pe) :
    Calls Tryd.prog 42 #[.string s] w fun e w' => ∃ N, e = .returned (.tuple #[.int .i64 0, .iface 105 (.pointer (some ⟨N, 0, none⟩))]) ∧ Old w w' := by
  cases hh : Lib.atoiAll s.data.toList
  · exact absurd hh (h1 _)
  · exact (Any.strconv_Atoi_syntax Tryd.laysC172 s hlim hh ev w hv hev).mono (by rintro e w' ⟨N, rfl, _, _, hb⟩; exact ⟨N, rfl, hb⟩)
  · exact absurd hh h2
end Go.Proofs.YthfjkaeenpbebaaDoor
