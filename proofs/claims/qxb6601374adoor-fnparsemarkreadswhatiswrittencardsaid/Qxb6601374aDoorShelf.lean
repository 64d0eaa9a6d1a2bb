/-
  The library contracts of this road, laid at this dump by the kit's own tool (lay-shelf, lay-plain): each one application of a theorem of the kit's library.
-/
import Derived.Shelf.Small.Wraps
import Derived.Shelf.Strconv.Atoi
import Derived.Shelf.Strings.Search1
import Derived.Shelf.Strings.Search2
import Derived.Shelf.Strings.Search3
import Derived.Shelf.LaysM
import Derived.Shelf.Strings.Prefix
import Derived.Shelf.Strings.Runes
import Derived.Shelf.Strings.IndexAny
import Derived.Shelf.Strings.AsciiSet
import Derived.Shelf.Strings.IndexAnyAll
import Derived.Test.Qxb6601374aDoorProg
namespace Go.Proofs
open Go.Shelf
def Tryd.lays103_ren : Go.Shelf.Ren := ⟨fun | 103 => 25 | 210 => 39 | 206 => 40 | n => n, fun | 9 => 9 | 4 => 4 | 24 => 60 | 3 => 3 | n => n, fun | n => n⟩
theorem Tryd.lays103 : Go.Proofs.Lays.n103 Tryd.prog Tryd.lays103_ren := {
  mixed := by kernel_rfl
  f103 := Tryd.func25.trans (congrArg some (by kernel_rfl))
  f206 := Tryd.func40.trans (congrArg some (by kernel_rfl))
  f210 := Tryd.func39.trans (congrArg some (by kernel_rfl))
  t3 := Tryd.underlying3
  a3 := Tryd.isAgg3
  z3 := Tryd.sizeOf3
  v3 := Tryd.zeroValue3
  t4 := Tryd.underlying4
  a4 := Tryd.isAgg4
  z4 := Tryd.sizeOf4
  v4 := Tryd.zeroValue4
  t9 := Tryd.underlying9
  a9 := Tryd.isAgg9
  z9 := Tryd.sizeOf9
  v9 := Tryd.zeroValue9
  t24 := Tryd.underlying60
  a24 := Tryd.isAgg60
  z24 := Tryd.sizeOf60
  v24 := Tryd.zeroValue60 }
open Go.RowKit in
theorem Tryd.strings_CutPrefix (s p : ByteArray) (w : World) :
    Calls Tryd.prog 25 #[.string s, .string p] w fun e w' => e = .returned (.tuple #[.string ⟨(Lib.trimPrefix s.data.toList p.data.toList).toArray⟩, .bool (Lib.hasPrefix s.data.toList p.data.toList)]) ∧ w' = w := Any.strings_CutPrefix Tryd.lays103 s p w
def Tryd.lays172_ren : Go.Shelf.Ren := ⟨fun | 172 => 30 | 244 => 45 | 245 => 46 | 247 => 55 | 279 => 56 | 280 => 57 | 281 => 58 | 282 => 59 | 287 => 67 | 316 => 68 | 171 => 70 | 205 => 69 | 321 => 76 | 322 => 77 | 243 => 78 | 246 => 80 | 283 => 81 | 284 => 82 | 285 => 83 | 286 => 84 | 129 => 86 | 317 => 85 | 318 => 87 | 319 => 88 | 320 => 89 | 337 => 90 | 338 => 91 | n => n, fun | 9 => 9 | 3 => 3 | 75 => 68 | 76 => 69 | 4 => 4 | 5 => 5 | 167 => 95 | 37 => 40 | 0 => 0 | 85 => 96 | 2 => 2 | 168 => 98 | 53 => 113 | 175 => 114 | 46 => 87 | 210 => 118 | 127 => 128 | 145 => 131 | 143 => 129 | 21 => 21 | 171 => 136 | 173 => 139 | 212 => 142 | 51 => 92 | 20 => 20 | 213 => 143 | 232 => 146 | 233 => 147 | 80 => 150 | n => n, fun | 15 => 3 | 16 => 4 | 17 => 7 | 18 => 8 | 19 => 9 | n => n⟩
theorem Tryd.lays172 : Go.Proofs.Lays.n172 Tryd.prog Tryd.lays172_ren := {
  mixed := by kernel_rfl
  f129 := Tryd.func86.trans (congrArg some (by kernel_rfl))
  f171 := Tryd.func70.trans (congrArg some (by kernel_rfl))
  f172 := Tryd.func30.trans (congrArg some (by kernel_rfl))
  f205 := Tryd.func69.trans (congrArg some (by kernel_rfl))
  f243 := Tryd.func78.trans (congrArg some (by kernel_rfl))
  f244 := Tryd.func45.trans (congrArg some (by kernel_rfl))
  f245 := Tryd.func46.trans (congrArg some (by kernel_rfl))
  f246 := Tryd.func80.trans (congrArg some (by kernel_rfl))
  f247 := Tryd.func55.trans (congrArg some (by kernel_rfl))
  f279 := Tryd.func56.trans (congrArg some (by kernel_rfl))
  f280 := Tryd.func57.trans (congrArg some (by kernel_rfl))
  f281 := Tryd.func58.trans (congrArg some (by kernel_rfl))
  f282 := Tryd.func59.trans (congrArg some (by kernel_rfl))
  f283 := Tryd.func81.trans (congrArg some (by kernel_rfl))
  f284 := Tryd.func82.trans (congrArg some (by kernel_rfl))
  f285 := Tryd.func83.trans (congrArg some (by kernel_rfl))
  f286 := Tryd.func84.trans (congrArg some (by kernel_rfl))
  f287 := Tryd.func67.trans (congrArg some (by kernel_rfl))
  f316 := Tryd.func68.trans (congrArg some (by kernel_rfl))
  f317 := Tryd.func85.trans (congrArg some (by kernel_rfl))
  f318 := Tryd.func87.trans (congrArg some (by kernel_rfl))
  f319 := Tryd.func88.trans (congrArg some (by kernel_rfl))
  f320 := Tryd.func89.trans (congrArg some (by kernel_rfl))
  f321 := Tryd.func76.trans (congrArg some (by kernel_rfl))
  f322 := Tryd.func77.trans (congrArg some (by kernel_rfl))
  f337 := Tryd.func90.trans (congrArg some (by kernel_rfl))
  f338 := Tryd.func91.trans (congrArg some (by kernel_rfl))
  t0 := Tryd.underlying0
  a0 := Tryd.isAgg0
  z0 := Tryd.sizeOf0
  v0 := Tryd.zeroValue0
  t2 := Tryd.underlying2
  a2 := Tryd.isAgg2
  z2 := Tryd.sizeOf2
  v2 := Tryd.zeroValue2
  t3 := Tryd.underlying3
  a3 := Tryd.isAgg3
  z3 := Tryd.sizeOf3
  v3 := Tryd.zeroValue3
  t4 := Tryd.underlying4
  a4 := Tryd.isAgg4
  z4 := Tryd.sizeOf4
  v4 := Tryd.zeroValue4
  t5 := Tryd.underlying5
  a5 := Tryd.isAgg5
  z5 := Tryd.sizeOf5
  v5 := Tryd.zeroValue5
  t9 := Tryd.underlying9
  a9 := Tryd.isAgg9
  z9 := Tryd.sizeOf9
  v9 := Tryd.zeroValue9
  t20 := Tryd.underlying20
  a20 := Tryd.isAgg20
  z20 := Tryd.sizeOf20
  v20 := Tryd.zeroValue20
  t21 := Tryd.underlying21
  a21 := Tryd.isAgg21
  z21 := Tryd.sizeOf21
  v21 := Tryd.zeroValue21
  t37 := Tryd.underlying40
  a37 := Tryd.isAgg40
  z37 := Tryd.sizeOf40
  v37 := Tryd.zeroValue40
  t46 := Tryd.underlying87
  a46 := Tryd.isAgg87
  z46 := Tryd.sizeOf87
  v46 := Tryd.zeroValue87
  t51 := Tryd.underlying92
  a51 := Tryd.isAgg92
  z51 := Tryd.sizeOf92
  v51 := Tryd.zeroValue92
  t53 := Tryd.underlying113
  a53 := Tryd.isAgg113
  z53 := Tryd.sizeOf113
  v53 := Tryd.zeroValue113
  t75 := Tryd.underlying68
  a75 := Tryd.isAgg68
  z75 := Tryd.sizeOf68
  v75 := Tryd.zeroValue68
  t76 := Tryd.underlying69
  a76 := Tryd.isAgg69
  z76 := Tryd.sizeOf69
  v76 := Tryd.zeroValue69
  t85 := Tryd.underlying96
  a85 := Tryd.isAgg96
  z85 := Tryd.sizeOf96
  v85 := Tryd.zeroValue96
  t127 := Tryd.underlying128
  a127 := Tryd.isAgg128
  z127 := Tryd.sizeOf128
  v127 := Tryd.zeroValue128
  t143 := Tryd.underlying129
  a143 := Tryd.isAgg129
  z143 := Tryd.sizeOf129
  v143 := Tryd.zeroValue129
  t145 := Tryd.underlying131
  a145 := Tryd.isAgg131
  z145 := Tryd.sizeOf131
  v145 := Tryd.zeroValue131
  t167 := Tryd.underlying95
  a167 := Tryd.isAgg95
  z167 := Tryd.sizeOf95
  v167 := Tryd.zeroValue95
  t168 := Tryd.underlying98
  a168 := Tryd.isAgg98
  z168 := Tryd.sizeOf98
  v168 := Tryd.zeroValue98
  t171 := Tryd.underlying136
  a171 := Tryd.isAgg136
  z171 := Tryd.sizeOf136
  v171 := Tryd.zeroValue136
  t173 := Tryd.underlying139
  a173 := Tryd.isAgg139
  z173 := Tryd.sizeOf139
  v173 := Tryd.zeroValue139
  t175 := Tryd.underlying114
  a175 := Tryd.isAgg114
  z175 := Tryd.sizeOf114
  v175 := Tryd.zeroValue114
  t210 := Tryd.underlying118
  a210 := Tryd.isAgg118
  z210 := Tryd.sizeOf118
  v210 := Tryd.zeroValue118
  t212 := Tryd.underlying142
  a212 := Tryd.isAgg142
  z212 := Tryd.sizeOf142
  v212 := Tryd.zeroValue142
  t213 := Tryd.underlying143
  a213 := Tryd.isAgg143
  z213 := Tryd.sizeOf143
  t232 := Tryd.underlying146
  a232 := Tryd.isAgg146
  z232 := Tryd.sizeOf146
  v232 := Tryd.zeroValue146
  t233 := Tryd.underlying147
  a233 := Tryd.isAgg147
  z233 := Tryd.sizeOf147
  v233 := Tryd.zeroValue147
  g15 := by kernel_rfl
  g16 := by kernel_rfl
  g17 := by kernel_rfl
  g18 := by kernel_rfl
  g19 := by kernel_rfl }
open Go.RowKit in
theorem Tryd.strconv_Atoi (s : ByteArray) (n : Int) (hl : s.size ≤ 18) (h : Lib.atoi s.data.toList = some n) (w : World) :
    Calls Tryd.prog 30 #[.string s] w fun e w' => e = .returned (.tuple #[.int .i64 n, .nilIface]) ∧ ∃ t, w' = Lib.bytesWorld w 5 t := Any.strconv_Atoi Tryd.lays172 s n hl h w
def Tryd.lays219_ren : Go.Shelf.Ren := ⟨fun | 219 => 54 | 217 => 63 | 225 => 51 | 224 => 50 | 267 => 66 | 266 => 74 | 314 => 75 | n => n, fun | 9 => 9 | 3 => 3 | 4 => 4 | 5 => 5 | 46 => 87 | 146 => 125 | 51 => 92 | n => n, fun | 1 => 2 | n => n⟩
theorem Tryd.lays219 : Go.Proofs.Lays.n219 Tryd.prog Tryd.lays219_ren := {
  mixed := by kernel_rfl
  f217 := Tryd.func63.trans (congrArg some (by kernel_rfl))
  f219 := Tryd.func54.trans (congrArg some (by kernel_rfl))
  f224 := Tryd.func50.trans (congrArg some (by kernel_rfl))
  f225 := Tryd.func51.trans (congrArg some (by kernel_rfl))
  f266 := Tryd.func74.trans (congrArg some (by kernel_rfl))
  f267 := Tryd.func66.trans (congrArg some (by kernel_rfl))
  f314 := Tryd.func75.trans (congrArg some (by kernel_rfl))
  t3 := Tryd.underlying3
  a3 := Tryd.isAgg3
  z3 := Tryd.sizeOf3
  v3 := Tryd.zeroValue3
  t4 := Tryd.underlying4
  a4 := Tryd.isAgg4
  z4 := Tryd.sizeOf4
  v4 := Tryd.zeroValue4
  t5 := Tryd.underlying5
  a5 := Tryd.isAgg5
  z5 := Tryd.sizeOf5
  v5 := Tryd.zeroValue5
  t9 := Tryd.underlying9
  a9 := Tryd.isAgg9
  z9 := Tryd.sizeOf9
  v9 := Tryd.zeroValue9
  t46 := Tryd.underlying87
  a46 := Tryd.isAgg87
  z46 := Tryd.sizeOf87
  v46 := Tryd.zeroValue87
  t51 := Tryd.underlying92
  a51 := Tryd.isAgg92
  z51 := Tryd.sizeOf92
  v51 := Tryd.zeroValue92
  t146 := Tryd.underlying125
  a146 := Tryd.isAgg125
  z146 := Tryd.sizeOf125
  v146 := Tryd.zeroValue125
  g1 := by kernel_rfl }
open Go.RowKit Go.Lib in
theorem Tryd.stringslite_Index_one (s : ByteArray) (c : UInt8) (w : World) :
    Calls Tryd.prog 54 #[.string s, .string ⟨#[c]⟩] w fun e w' => e = .returned (.int .i64 (Lib.indexByte s.data.toList c)) ∧ w' = w := Any.stringslite_Index_one Tryd.lays219 s c w
def Tryd.lays99_ren : Go.Shelf.Ren := ⟨fun | 99 => 26 | 206 => 40 | n => n, fun | 9 => 9 | 4 => 4 | 3 => 3 | n => n, fun | n => n⟩
theorem Tryd.lays99 : Go.Proofs.Lays.n99 Tryd.prog Tryd.lays99_ren := {
  mixed := by kernel_rfl
  f99 := Tryd.func26.trans (congrArg some (by kernel_rfl))
  f206 := Tryd.func40.trans (congrArg some (by kernel_rfl))
  t3 := Tryd.underlying3
  a3 := Tryd.isAgg3
  z3 := Tryd.sizeOf3
  v3 := Tryd.zeroValue3
  t4 := Tryd.underlying4
  a4 := Tryd.isAgg4
  z4 := Tryd.sizeOf4
  v4 := Tryd.zeroValue4
  t9 := Tryd.underlying9
  a9 := Tryd.isAgg9
  z9 := Tryd.sizeOf9
  v9 := Tryd.zeroValue9 }
open Go.RowKit Go.Lib in
theorem Tryd.strings_HasPrefix (s p : ByteArray) (w : World) :
    Calls Tryd.prog 26 #[.string s, .string p] w fun e w' => e = .returned (.bool (Lib.hasPrefix s.data.toList p.data.toList)) ∧ w' = w := Any.strings_HasPrefix Tryd.lays99 s p w
def Tryd.lays102_ren : Go.Shelf.Ren := ⟨fun | 102 => 24 | 209 => 38 | 207 => 52 | n => n, fun | 9 => 9 | 4 => 4 | 3 => 3 | n => n, fun | n => n⟩
theorem Tryd.lays102 : Go.Proofs.Lays.n102 Tryd.prog Tryd.lays102_ren := {
  mixed := by kernel_rfl
  f102 := Tryd.func24.trans (congrArg some (by kernel_rfl))
  f207 := Tryd.func52.trans (congrArg some (by kernel_rfl))
  f209 := Tryd.func38.trans (congrArg some (by kernel_rfl))
  t3 := Tryd.underlying3
  a3 := Tryd.isAgg3
  z3 := Tryd.sizeOf3
  v3 := Tryd.zeroValue3
  t4 := Tryd.underlying4
  a4 := Tryd.isAgg4
  z4 := Tryd.sizeOf4
  v4 := Tryd.zeroValue4
  t9 := Tryd.underlying9
  a9 := Tryd.isAgg9
  z9 := Tryd.sizeOf9
  v9 := Tryd.zeroValue9 }
open Go.RowKit Go.Lib in
theorem Tryd.strings_TrimSuffix (s p : ByteArray) (w : World) (hs : s.size ≤ 9223372036854775807) :
    Calls Tryd.prog 24 #[.string s, .string p] w fun e w' => e = .returned (.string ⟨(Lib.trimSuffix s.data.toList p.data.toList).toArray⟩) ∧ w' = w := Any.strings_TrimSuffix Tryd.lays102 s p w hs
def Tryd.lays152_ren : Go.Shelf.Ren := ⟨fun | 152 => 33 | 137 => 48 | 119 => 49 | 224 => 50 | 225 => 51 | 217 => 63 | 266 => 74 | n => n, fun | 9 => 9 | 21 => 21 | 3 => 3 | 4 => 4 | 5 => 5 | 0 => 0 | 46 => 87 | n => n, fun | n => n⟩
theorem Tryd.lays152 : Go.Proofs.Lays.n152 Tryd.prog Tryd.lays152_ren := {
  mixed := by kernel_rfl
  f119 := Tryd.func49.trans (congrArg some (by kernel_rfl))
  f137 := Tryd.func48.trans (congrArg some (by kernel_rfl))
  f152 := Tryd.func33.trans (congrArg some (by kernel_rfl))
  f217 := Tryd.func63.trans (congrArg some (by kernel_rfl))
  f224 := Tryd.func50.trans (congrArg some (by kernel_rfl))
  f225 := Tryd.func51.trans (congrArg some (by kernel_rfl))
  f266 := Tryd.func74.trans (congrArg some (by kernel_rfl))
  t0 := Tryd.underlying0
  a0 := Tryd.isAgg0
  z0 := Tryd.sizeOf0
  v0 := Tryd.zeroValue0
  t3 := Tryd.underlying3
  a3 := Tryd.isAgg3
  z3 := Tryd.sizeOf3
  v3 := Tryd.zeroValue3
  t4 := Tryd.underlying4
  a4 := Tryd.isAgg4
  z4 := Tryd.sizeOf4
  v4 := Tryd.zeroValue4
  t5 := Tryd.underlying5
  a5 := Tryd.isAgg5
  z5 := Tryd.sizeOf5
  v5 := Tryd.zeroValue5
  t9 := Tryd.underlying9
  a9 := Tryd.isAgg9
  z9 := Tryd.sizeOf9
  v9 := Tryd.zeroValue9
  t21 := Tryd.underlying21
  a21 := Tryd.isAgg21
  z21 := Tryd.sizeOf21
  v21 := Tryd.zeroValue21
  t46 := Tryd.underlying87
  a46 := Tryd.isAgg87
  z46 := Tryd.sizeOf87
  v46 := Tryd.zeroValue87 }
open Go.RowKit Go.Lib in
theorem Tryd.strings_IndexRune_ascii (s : ByteArray) (r : Int) (w : World) (h0 : 0 ≤ r) (h1 : r < 128) :
    Calls Tryd.prog 33 #[.string s, .int .i32 r] w fun e w' => e = .returned (.int .i64 (Lib.indexByte s.data.toList r.toNat.toUInt8)) ∧ w' = w := Any.strings_IndexRune_ascii Tryd.lays152 s r w h0 h1
def Tryd.lays226_ren : Go.Shelf.Ren := ⟨fun | 226 => 34 | n => n, fun | 3 => 3 | 4 => 4 | n => n, fun | n => n⟩
theorem Tryd.lays226 : Go.Proofs.Lays.n226 Tryd.prog Tryd.lays226_ren := {
  mixed := by kernel_rfl
  f226 := Tryd.func34.trans (congrArg some (by kernel_rfl))
  t3 := Tryd.underlying3
  a3 := Tryd.isAgg3
  z3 := Tryd.sizeOf3
  v3 := Tryd.zeroValue3
  t4 := Tryd.underlying4
  a4 := Tryd.isAgg4
  z4 := Tryd.sizeOf4
  v4 := Tryd.zeroValue4 }
open Go.RowKit Go.Lib in
theorem Tryd.strings_shouldUseASCIISet (n : Int) (w : World) :
    Calls Tryd.prog 34 #[.int .i64 n] w fun e w' => e = .returned (.bool (decide (8 < n))) ∧ w' = w := Any.strings_shouldUseASCIISet Tryd.lays226 n w
def Tryd.lays153_ren : Go.Shelf.Ren := ⟨fun | 153 => 22 | 152 => 33 | 226 => 34 | 227 => 35 | 228 => 36 | 137 => 48 | 119 => 49 | 224 => 50 | 225 => 51 | 217 => 63 | 266 => 74 | n => n, fun | 9 => 9 | 3 => 3 | 4 => 4 | 5 => 5 | 21 => 21 | 117 => 78 | 116 => 77 | 0 => 0 | 46 => 87 | 124 => 88 | n => n, fun | n => n⟩
theorem Tryd.lays153 : Go.Proofs.Lays.n153 Tryd.prog Tryd.lays153_ren := {
  mixed := by kernel_rfl
  f119 := Tryd.func49.trans (congrArg some (by kernel_rfl))
  f137 := Tryd.func48.trans (congrArg some (by kernel_rfl))
  f152 := Tryd.func33.trans (congrArg some (by kernel_rfl))
  f153 := Tryd.func22.trans (congrArg some (by kernel_rfl))
  f217 := Tryd.func63.trans (congrArg some (by kernel_rfl))
  f224 := Tryd.func50.trans (congrArg some (by kernel_rfl))
  f225 := Tryd.func51.trans (congrArg some (by kernel_rfl))
  f226 := Tryd.func34.trans (congrArg some (by kernel_rfl))
  f227 := Tryd.func35.trans (congrArg some (by kernel_rfl))
  f228 := Tryd.func36.trans (congrArg some (by kernel_rfl))
  f266 := Tryd.func74.trans (congrArg some (by kernel_rfl))
  t0 := Tryd.underlying0
  a0 := Tryd.isAgg0
  z0 := Tryd.sizeOf0
  v0 := Tryd.zeroValue0
  t3 := Tryd.underlying3
  a3 := Tryd.isAgg3
  z3 := Tryd.sizeOf3
  v3 := Tryd.zeroValue3
  t4 := Tryd.underlying4
  a4 := Tryd.isAgg4
  z4 := Tryd.sizeOf4
  v4 := Tryd.zeroValue4
  t5 := Tryd.underlying5
  a5 := Tryd.isAgg5
  z5 := Tryd.sizeOf5
  v5 := Tryd.zeroValue5
  t9 := Tryd.underlying9
  a9 := Tryd.isAgg9
  z9 := Tryd.sizeOf9
  v9 := Tryd.zeroValue9
  t21 := Tryd.underlying21
  a21 := Tryd.isAgg21
  z21 := Tryd.sizeOf21
  v21 := Tryd.zeroValue21
  t46 := Tryd.underlying87
  a46 := Tryd.isAgg87
  z46 := Tryd.sizeOf87
  v46 := Tryd.zeroValue87
  t116 := Tryd.underlying77
  a116 := Tryd.isAgg77
  z116 := Tryd.sizeOf77
  t117 := Tryd.underlying78
  a117 := Tryd.isAgg78
  z117 := Tryd.sizeOf78
  v117 := Tryd.zeroValue78
  t124 := Tryd.underlying88
  a124 := Tryd.isAgg88
  z124 := Tryd.sizeOf88
  v124 := Tryd.zeroValue88 }
open Go.RowKit Go.Lib in
theorem Tryd.strings_IndexAny_long (hv116 : ∀ w, (zeroValue 77).run Tryd.prog w = .ok (.agg (Array.replicate 256 (.bool false))) w) (s chars : ByteArray) (w : World) (h2 : 2 ≤ chars.size) (h8 : 8 < s.size) (hs : s.size < 4294967281) (hcs : chars.size < 4294967281) (hascii : ∀ (j : Nat) b, chars.data.toList[j]? = some b → b.toNat < 128) :
    Calls Tryd.prog 22 #[.string s, .string chars] w fun e w' => e = .returned (.int .i64 (Lib.indexAny s.data.toList chars.data.toList)) ∧ w' = ((w.alloc (.cells (Lib.setCells chars.data.toList) 77)).alloc (.cells (Lib.setCells chars.data.toList) 77)) := Any.strings_IndexAny_long Tryd.lays153 hv116 (by kernel_rfl) s chars w h2 h8 hs hcs hascii
end Go.Proofs
