/- Contracts and plain lemmas of this seat (part 3), merged by wip/merge2.py; what is proved stands in the claim's last text. -/
import Derived.Test.YtkhgeonlohafgaaGreatDoorCFew1
import Derived.Test.YtkhgeonlohafgaaGreatDoorCFew2
import Derived.Shelf.Strings.Builder1
import Derived.Shelf.Strings.Builder2
import Derived.Shelf.Strings.OnBuilder
import Derived.Shelf.Small.Utf8
import Derived.Shelf.Strconv.Atoi
import Derived.Shelf.Strconv.AtoiErrFast
import Derived.Shelf.Strconv.ParseIntEmpty
import Derived.Shelf.Strconv.AtoiFail
import Derived.Shelf.LaysM
import Derived.Shelf.Strconv.Clone
import Derived.Shelf.Strconv.SyntaxError
import Derived.Shelf.LaysC
import Derived.Shelf.Strconv.ToError
import Derived.Shelf.Strconv.AtoiErr
import Derived.Shelf.Unicode.Latin
import Derived.Shelf.Unicode.DecodeSlow
import Derived.Shelf.Unicode.CaseLookup
import Derived.Shelf.Unicode.CaseConvert
import Derived.Shelf.Unicode.CaseTo
import Derived.Shelf.Unicode.CaseLaid
import Derived.Test.YtkhgeonlohafgaaGreatDoorProg
import Derived.Deep.RegionHeld
namespace Go.Proofs
open Go.Shelf
def Tryz.lays158_ren : Go.Shelf.Ren := ⟨fun | 158 => 78 | 165 => 103 | 166 => 104 | 167 => 105 | 169 => 106 | 230 => 107 | 203 => 110 | 240 => 121 | 241 => 122 | 197 => 123 | 118 => 124 | 168 => 125 | 270 => 126 | 262 => 127 | 276 => 133 | 277 => 134 | 260 => 135 | 242 => 136 | 313 => 137 | 278 => 141 | 274 => 142 | 275 => 143 | n => n, fun | 9 => 9 | 4 => 4 | 3 => 3 | 5 => 5 | 72 => 172 | 0 => 0 | 76 => 140 | 75 => 71 | 107 => 177 | 70 => 170 | 20 => 20 | 37 => 78 | 127 => 184 | 21 => 21 | 105 => 185 | 164 => 196 | 162 => 202 | 203 => 200 | 119 => 207 | 46 => 164 | 139 => 210 | 138 => 209 | 51 => 163 | 160 => 211 | 208 => 218 | 206 => 216 | 80 => 175 | n => n, fun | 13 => 0 | 3 => 4 | 4 => 5 | n => n⟩
theorem Tryz.lays158 : Go.Proofs.Lays.n158 Tryz.prog Tryz.lays158_ren := {
  mixed := by kernel_rfl
  f118 := Tryz.func124.trans (congrArg some (by kernel_rfl))
  f158 := Tryz.func78.trans (congrArg some (by kernel_rfl))
  f165 := Tryz.func103.trans (congrArg some (by kernel_rfl))
  f166 := Tryz.func104.trans (congrArg some (by kernel_rfl))
  f167 := Tryz.func105.trans (congrArg some (by kernel_rfl))
  f168 := Tryz.func125.trans (congrArg some (by kernel_rfl))
  f169 := Tryz.func106.trans (congrArg some (by kernel_rfl))
  f197 := Tryz.func123.trans (congrArg some (by kernel_rfl))
  f203 := Tryz.func110.trans (congrArg some (by kernel_rfl))
  f230 := Tryz.func107.trans (congrArg some (by kernel_rfl))
  f240 := Tryz.func121.trans (congrArg some (by kernel_rfl))
  f241 := Tryz.func122.trans (congrArg some (by kernel_rfl))
  f242 := Tryz.func136.trans (congrArg some (by kernel_rfl))
  f260 := Tryz.func135.trans (congrArg some (by kernel_rfl))
  f262 := Tryz.func127.trans (congrArg some (by kernel_rfl))
  f270 := Tryz.func126.trans (congrArg some (by kernel_rfl))
  f274 := Tryz.func142.trans (congrArg some (by kernel_rfl))
  f275 := Tryz.func143.trans (congrArg some (by kernel_rfl))
  f276 := Tryz.func133.trans (congrArg some (by kernel_rfl))
  f277 := Tryz.func134.trans (congrArg some (by kernel_rfl))
  f278 := Tryz.func141.trans (congrArg some (by kernel_rfl))
  f313 := Tryz.func137.trans (congrArg some (by kernel_rfl))
  t0 := Tryz.underlying0
  a0 := Tryz.isAgg0
  z0 := Tryz.sizeOf0
  v0 := Tryz.zeroValue0
  t3 := Tryz.underlying3
  a3 := Tryz.isAgg3
  z3 := Tryz.sizeOf3
  v3 := Tryz.zeroValue3
  t4 := Tryz.underlying4
  a4 := Tryz.isAgg4
  z4 := Tryz.sizeOf4
  v4 := Tryz.zeroValue4
  t5 := Tryz.underlying5
  a5 := Tryz.isAgg5
  z5 := Tryz.sizeOf5
  v5 := Tryz.zeroValue5
  t9 := Tryz.underlying9
  a9 := Tryz.isAgg9
  z9 := Tryz.sizeOf9
  v9 := Tryz.zeroValue9
  t20 := Tryz.underlying20
  a20 := Tryz.isAgg20
  z20 := Tryz.sizeOf20
  v20 := Tryz.zeroValue20
  t21 := Tryz.underlying21
  a21 := Tryz.isAgg21
  z21 := Tryz.sizeOf21
  v21 := Tryz.zeroValue21
  t37 := Tryz.underlying78
  a37 := Tryz.isAgg78
  z37 := Tryz.sizeOf78
  v37 := Tryz.zeroValue78
  t46 := Tryz.underlying164
  a46 := Tryz.isAgg164
  z46 := Tryz.sizeOf164
  v46 := Tryz.zeroValue164
  t51 := Tryz.underlying163
  a51 := Tryz.isAgg163
  z51 := Tryz.sizeOf163
  v51 := Tryz.zeroValue163
  t70 := Tryz.underlying170
  a70 := Tryz.isAgg170
  z70 := Tryz.sizeOf170
  v70 := Tryz.zeroValue170
  t72 := Tryz.underlying172
  a72 := Tryz.isAgg172
  z72 := Tryz.sizeOf172
  v72 := Tryz.zeroValue172
  t75 := Tryz.underlying71
  a75 := Tryz.isAgg71
  z75 := Tryz.sizeOf71
  v75 := Tryz.zeroValue71
  t76 := Tryz.underlying140
  a76 := Tryz.isAgg140
  z76 := Tryz.sizeOf140
  v76 := Tryz.zeroValue140
  t105 := Tryz.underlying185
  a105 := Tryz.isAgg185
  z105 := Tryz.sizeOf185
  v105 := Tryz.zeroValue185
  t107 := Tryz.underlying177
  a107 := Tryz.isAgg177
  z107 := Tryz.sizeOf177
  v107 := Tryz.zeroValue177
  t119 := Tryz.underlying207
  a119 := Tryz.isAgg207
  z119 := Tryz.sizeOf207
  t127 := Tryz.underlying184
  a127 := Tryz.isAgg184
  z127 := Tryz.sizeOf184
  v127 := Tryz.zeroValue184
  t138 := Tryz.underlying209
  a138 := Tryz.isAgg209
  z138 := Tryz.sizeOf209
  v138 := Tryz.zeroValue209
  t139 := Tryz.underlying210
  a139 := Tryz.isAgg210
  z139 := Tryz.sizeOf210
  v139 := Tryz.zeroValue210
  t160 := Tryz.underlying211
  a160 := Tryz.isAgg211
  z160 := Tryz.sizeOf211
  v160 := Tryz.zeroValue211
  t162 := Tryz.underlying202
  a162 := Tryz.isAgg202
  z162 := Tryz.sizeOf202
  v162 := Tryz.zeroValue202
  t164 := Tryz.underlying196
  a164 := Tryz.isAgg196
  z164 := Tryz.sizeOf196
  v164 := Tryz.zeroValue196
  t203 := Tryz.underlying200
  a203 := Tryz.isAgg200
  z203 := Tryz.sizeOf200
  v203 := Tryz.zeroValue200
  t206 := Tryz.underlying216
  a206 := Tryz.isAgg216
  z206 := Tryz.sizeOf216
  v206 := Tryz.zeroValue216
  t208 := Tryz.underlying218
  a208 := Tryz.isAgg218
  z208 := Tryz.sizeOf218
  v208 := Tryz.zeroValue218
  g3 := by kernel_rfl
  g4 := by kernel_rfl
  g13 := by kernel_rfl }
theorem Tryz.Builder_Extra_158 : Builder.Extra Tryz.prog Tryz.lays158_ren := {
  sizeBuilder := by kernel_rfl
  liesBuilder := by kernel_rfl
  t5 := Tryz.underlying5
  a5 := Tryz.isAgg5
  z5 := Tryz.sizeOf5
  v5 := Tryz.zeroValue5
  infoByte := by kernel_rfl
  cellsByte := by kernel_rfl
  sizeByte := by kernel_rfl
  neB5 := by decide }
open Go.RowKit in
theorem Tryz.strings_ToUpper_ascii (s : ByteArray) (w : World) (hs : s.size ≤ 140737488355328) (hascii : ∀ (j : Nat) (b : UInt8), s.data.toList[j]? = some b → b.toNat < 128) :
    Calls Tryz.prog 78 #[.string s] w fun e w' => e = .returned (.string ⟨(Lib.toUpperA s.data.toList).toArray⟩) ∧ Below w.heap.size w w' := Any.strings_ToUpper_ascii Tryz.lays158 Tryz.Builder_Extra_158 s w hs hascii
def Tryz.lays159_ren : Go.Shelf.Ren := ⟨fun | 159 => 75 | 165 => 103 | 166 => 104 | 167 => 105 | 169 => 106 | 230 => 107 | 204 => 108 | 240 => 121 | 241 => 122 | 197 => 123 | 118 => 124 | 168 => 125 | 270 => 126 | 262 => 127 | 276 => 133 | 277 => 134 | 260 => 135 | 242 => 136 | 313 => 137 | 278 => 141 | 274 => 142 | 275 => 143 | n => n, fun | 9 => 9 | 4 => 4 | 3 => 3 | 5 => 5 | 72 => 172 | 0 => 0 | 76 => 140 | 75 => 71 | 107 => 177 | 70 => 170 | 20 => 20 | 37 => 78 | 127 => 184 | 21 => 21 | 105 => 185 | 164 => 196 | 162 => 202 | 203 => 200 | 119 => 207 | 46 => 164 | 139 => 210 | 138 => 209 | 51 => 163 | 160 => 211 | 208 => 218 | 206 => 216 | 80 => 175 | n => n, fun | 13 => 0 | 3 => 4 | 4 => 5 | n => n⟩
theorem Tryz.lays159 : Go.Proofs.Lays.n159 Tryz.prog Tryz.lays159_ren := {
  mixed := by kernel_rfl
  f118 := Tryz.func124.trans (congrArg some (by kernel_rfl))
  f159 := Tryz.func75.trans (congrArg some (by kernel_rfl))
  f165 := Tryz.func103.trans (congrArg some (by kernel_rfl))
  f166 := Tryz.func104.trans (congrArg some (by kernel_rfl))
  f167 := Tryz.func105.trans (congrArg some (by kernel_rfl))
  f168 := Tryz.func125.trans (congrArg some (by kernel_rfl))
  f169 := Tryz.func106.trans (congrArg some (by kernel_rfl))
  f197 := Tryz.func123.trans (congrArg some (by kernel_rfl))
  f204 := Tryz.func108.trans (congrArg some (by kernel_rfl))
  f230 := Tryz.func107.trans (congrArg some (by kernel_rfl))
  f240 := Tryz.func121.trans (congrArg some (by kernel_rfl))
  f241 := Tryz.func122.trans (congrArg some (by kernel_rfl))
  f242 := Tryz.func136.trans (congrArg some (by kernel_rfl))
  f260 := Tryz.func135.trans (congrArg some (by kernel_rfl))
  f262 := Tryz.func127.trans (congrArg some (by kernel_rfl))
  f270 := Tryz.func126.trans (congrArg some (by kernel_rfl))
  f274 := Tryz.func142.trans (congrArg some (by kernel_rfl))
  f275 := Tryz.func143.trans (congrArg some (by kernel_rfl))
  f276 := Tryz.func133.trans (congrArg some (by kernel_rfl))
  f277 := Tryz.func134.trans (congrArg some (by kernel_rfl))
  f278 := Tryz.func141.trans (congrArg some (by kernel_rfl))
  f313 := Tryz.func137.trans (congrArg some (by kernel_rfl))
  t0 := Tryz.underlying0
  a0 := Tryz.isAgg0
  z0 := Tryz.sizeOf0
  v0 := Tryz.zeroValue0
  t3 := Tryz.underlying3
  a3 := Tryz.isAgg3
  z3 := Tryz.sizeOf3
  v3 := Tryz.zeroValue3
  t4 := Tryz.underlying4
  a4 := Tryz.isAgg4
  z4 := Tryz.sizeOf4
  v4 := Tryz.zeroValue4
  t5 := Tryz.underlying5
  a5 := Tryz.isAgg5
  z5 := Tryz.sizeOf5
  v5 := Tryz.zeroValue5
  t9 := Tryz.underlying9
  a9 := Tryz.isAgg9
  z9 := Tryz.sizeOf9
  v9 := Tryz.zeroValue9
  t20 := Tryz.underlying20
  a20 := Tryz.isAgg20
  z20 := Tryz.sizeOf20
  v20 := Tryz.zeroValue20
  t21 := Tryz.underlying21
  a21 := Tryz.isAgg21
  z21 := Tryz.sizeOf21
  v21 := Tryz.zeroValue21
  t37 := Tryz.underlying78
  a37 := Tryz.isAgg78
  z37 := Tryz.sizeOf78
  v37 := Tryz.zeroValue78
  t46 := Tryz.underlying164
  a46 := Tryz.isAgg164
  z46 := Tryz.sizeOf164
  v46 := Tryz.zeroValue164
  t51 := Tryz.underlying163
  a51 := Tryz.isAgg163
  z51 := Tryz.sizeOf163
  v51 := Tryz.zeroValue163
  t70 := Tryz.underlying170
  a70 := Tryz.isAgg170
  z70 := Tryz.sizeOf170
  v70 := Tryz.zeroValue170
  t72 := Tryz.underlying172
  a72 := Tryz.isAgg172
  z72 := Tryz.sizeOf172
  v72 := Tryz.zeroValue172
  t75 := Tryz.underlying71
  a75 := Tryz.isAgg71
  z75 := Tryz.sizeOf71
  v75 := Tryz.zeroValue71
  t76 := Tryz.underlying140
  a76 := Tryz.isAgg140
  z76 := Tryz.sizeOf140
  v76 := Tryz.zeroValue140
  t105 := Tryz.underlying185
  a105 := Tryz.isAgg185
  z105 := Tryz.sizeOf185
  v105 := Tryz.zeroValue185
  t107 := Tryz.underlying177
  a107 := Tryz.isAgg177
  z107 := Tryz.sizeOf177
  v107 := Tryz.zeroValue177
  t119 := Tryz.underlying207
  a119 := Tryz.isAgg207
  z119 := Tryz.sizeOf207
  t127 := Tryz.underlying184
  a127 := Tryz.isAgg184
  z127 := Tryz.sizeOf184
  v127 := Tryz.zeroValue184
  t138 := Tryz.underlying209
  a138 := Tryz.isAgg209
  z138 := Tryz.sizeOf209
  v138 := Tryz.zeroValue209
  t139 := Tryz.underlying210
  a139 := Tryz.isAgg210
  z139 := Tryz.sizeOf210
  v139 := Tryz.zeroValue210
  t160 := Tryz.underlying211
  a160 := Tryz.isAgg211
  z160 := Tryz.sizeOf211
  v160 := Tryz.zeroValue211
  t162 := Tryz.underlying202
  a162 := Tryz.isAgg202
  z162 := Tryz.sizeOf202
  v162 := Tryz.zeroValue202
  t164 := Tryz.underlying196
  a164 := Tryz.isAgg196
  z164 := Tryz.sizeOf196
  v164 := Tryz.zeroValue196
  t203 := Tryz.underlying200
  a203 := Tryz.isAgg200
  z203 := Tryz.sizeOf200
  v203 := Tryz.zeroValue200
  t206 := Tryz.underlying216
  a206 := Tryz.isAgg216
  z206 := Tryz.sizeOf216
  v206 := Tryz.zeroValue216
  t208 := Tryz.underlying218
  a208 := Tryz.isAgg218
  z208 := Tryz.sizeOf218
  v208 := Tryz.zeroValue218
  g3 := by kernel_rfl
  g4 := by kernel_rfl
  g13 := by kernel_rfl }
theorem Tryz.Builder_Extra_159 : Builder.Extra Tryz.prog Tryz.lays159_ren := {
  sizeBuilder := by kernel_rfl
  liesBuilder := by kernel_rfl
  t5 := Tryz.underlying5
  a5 := Tryz.isAgg5
  z5 := Tryz.sizeOf5
  v5 := Tryz.zeroValue5
  infoByte := by kernel_rfl
  cellsByte := by kernel_rfl
  sizeByte := by kernel_rfl
  neB5 := by decide }
open Go.RowKit in
theorem Tryz.strings_ToLower_ascii (s : ByteArray) (w : World) (hs : s.size ≤ 140737488355328) (hascii : ∀ (j : Nat) (b : UInt8), s.data.toList[j]? = some b → b.toNat < 128) :
    Calls Tryz.prog 75 #[.string s] w fun e w' => e = .returned (.string ⟨(Lib.toLowerA s.data.toList).toArray⟩) ∧ Below w.heap.size w w' := Any.strings_ToLower_ascii Tryz.lays159 Tryz.Builder_Extra_159 s w hs hascii
def Tryz.lays172_ren : Go.Shelf.Ren := ⟨fun | 172 => 88 | 244 => 113 | 245 => 114 | 247 => 128 | 279 => 129 | 280 => 130 | 281 => 131 | 282 => 132 | 287 => 138 | 316 => 139 | 171 => 140 | 205 => 51 | 321 => 144 | 322 => 145 | 243 => 146 | 246 => 147 | 283 => 148 | 284 => 149 | 285 => 150 | 286 => 151 | 129 => 153 | 317 => 152 | 318 => 154 | 319 => 155 | 320 => 156 | 337 => 157 | 338 => 158 | n => n, fun | 9 => 9 | 3 => 3 | 75 => 71 | 76 => 140 | 4 => 4 | 5 => 5 | 167 => 190 | 37 => 78 | 0 => 0 | 85 => 191 | 2 => 2 | 168 => 193 | 53 => 60 | 175 => 203 | 46 => 164 | 210 => 206 | 127 => 184 | 145 => 133 | 143 => 131 | 21 => 21 | 171 => 220 | 173 => 223 | 212 => 226 | 51 => 163 | 20 => 20 | 213 => 227 | 232 => 230 | 233 => 231 | 80 => 175 | n => n, fun | 15 => 1 | 16 => 2 | 17 => 6 | 18 => 7 | 19 => 8 | n => n⟩
theorem Tryz.lays172 : Go.Proofs.Lays.n172 Tryz.prog Tryz.lays172_ren := {
  mixed := by kernel_rfl
  f129 := Tryz.func153.trans (congrArg some (by kernel_rfl))
  f171 := Tryz.func140.trans (congrArg some (by kernel_rfl))
  f172 := Tryz.func88.trans (congrArg some (by kernel_rfl))
  f205 := Tryz.func51.trans (congrArg some (by kernel_rfl))
  f243 := Tryz.func146.trans (congrArg some (by kernel_rfl))
  f244 := Tryz.func113.trans (congrArg some (by kernel_rfl))
  f245 := Tryz.func114.trans (congrArg some (by kernel_rfl))
  f246 := Tryz.func147.trans (congrArg some (by kernel_rfl))
  f247 := Tryz.func128.trans (congrArg some (by kernel_rfl))
  f279 := Tryz.func129.trans (congrArg some (by kernel_rfl))
  f280 := Tryz.func130.trans (congrArg some (by kernel_rfl))
  f281 := Tryz.func131.trans (congrArg some (by kernel_rfl))
  f282 := Tryz.func132.trans (congrArg some (by kernel_rfl))
  f283 := Tryz.func148.trans (congrArg some (by kernel_rfl))
  f284 := Tryz.func149.trans (congrArg some (by kernel_rfl))
  f285 := Tryz.func150.trans (congrArg some (by kernel_rfl))
  f286 := Tryz.func151.trans (congrArg some (by kernel_rfl))
  f287 := Tryz.func138.trans (congrArg some (by kernel_rfl))
  f316 := Tryz.func139.trans (congrArg some (by kernel_rfl))
  f317 := Tryz.func152.trans (congrArg some (by kernel_rfl))
  f318 := Tryz.func154.trans (congrArg some (by kernel_rfl))
  f319 := Tryz.func155.trans (congrArg some (by kernel_rfl))
  f320 := Tryz.func156.trans (congrArg some (by kernel_rfl))
  f321 := Tryz.func144.trans (congrArg some (by kernel_rfl))
  f322 := Tryz.func145.trans (congrArg some (by kernel_rfl))
  f337 := Tryz.func157.trans (congrArg some (by kernel_rfl))
  f338 := Tryz.func158.trans (congrArg some (by kernel_rfl))
  t0 := Tryz.underlying0
  a0 := Tryz.isAgg0
  z0 := Tryz.sizeOf0
  v0 := Tryz.zeroValue0
  t2 := Tryz.underlying2
  a2 := Tryz.isAgg2
  z2 := Tryz.sizeOf2
  v2 := Tryz.zeroValue2
  t3 := Tryz.underlying3
  a3 := Tryz.isAgg3
  z3 := Tryz.sizeOf3
  v3 := Tryz.zeroValue3
  t4 := Tryz.underlying4
  a4 := Tryz.isAgg4
  z4 := Tryz.sizeOf4
  v4 := Tryz.zeroValue4
  t5 := Tryz.underlying5
  a5 := Tryz.isAgg5
  z5 := Tryz.sizeOf5
  v5 := Tryz.zeroValue5
  t9 := Tryz.underlying9
  a9 := Tryz.isAgg9
  z9 := Tryz.sizeOf9
  v9 := Tryz.zeroValue9
  t20 := Tryz.underlying20
  a20 := Tryz.isAgg20
  z20 := Tryz.sizeOf20
  v20 := Tryz.zeroValue20
  t21 := Tryz.underlying21
  a21 := Tryz.isAgg21
  z21 := Tryz.sizeOf21
  v21 := Tryz.zeroValue21
  t37 := Tryz.underlying78
  a37 := Tryz.isAgg78
  z37 := Tryz.sizeOf78
  v37 := Tryz.zeroValue78
  t46 := Tryz.underlying164
  a46 := Tryz.isAgg164
  z46 := Tryz.sizeOf164
  v46 := Tryz.zeroValue164
  t51 := Tryz.underlying163
  a51 := Tryz.isAgg163
  z51 := Tryz.sizeOf163
  v51 := Tryz.zeroValue163
  t53 := Tryz.underlying60
  a53 := Tryz.isAgg60
  z53 := Tryz.sizeOf60
  v53 := Tryz.zeroValue60
  t75 := Tryz.underlying71
  a75 := Tryz.isAgg71
  z75 := Tryz.sizeOf71
  v75 := Tryz.zeroValue71
  t76 := Tryz.underlying140
  a76 := Tryz.isAgg140
  z76 := Tryz.sizeOf140
  v76 := Tryz.zeroValue140
  t85 := Tryz.underlying191
  a85 := Tryz.isAgg191
  z85 := Tryz.sizeOf191
  v85 := Tryz.zeroValue191
  t127 := Tryz.underlying184
  a127 := Tryz.isAgg184
  z127 := Tryz.sizeOf184
  v127 := Tryz.zeroValue184
  t143 := Tryz.underlying131
  a143 := Tryz.isAgg131
  z143 := Tryz.sizeOf131
  v143 := Tryz.zeroValue131
  t145 := Tryz.underlying133
  a145 := Tryz.isAgg133
  z145 := Tryz.sizeOf133
  v145 := Tryz.zeroValue133
  t167 := Tryz.underlying190
  a167 := Tryz.isAgg190
  z167 := Tryz.sizeOf190
  v167 := Tryz.zeroValue190
  t168 := Tryz.underlying193
  a168 := Tryz.isAgg193
  z168 := Tryz.sizeOf193
  v168 := Tryz.zeroValue193
  t171 := Tryz.underlying220
  a171 := Tryz.isAgg220
  z171 := Tryz.sizeOf220
  v171 := Tryz.zeroValue220
  t173 := Tryz.underlying223
  a173 := Tryz.isAgg223
  z173 := Tryz.sizeOf223
  v173 := Tryz.zeroValue223
  t175 := Tryz.underlying203
  a175 := Tryz.isAgg203
  z175 := Tryz.sizeOf203
  v175 := Tryz.zeroValue203
  t210 := Tryz.underlying206
  a210 := Tryz.isAgg206
  z210 := Tryz.sizeOf206
  v210 := Tryz.zeroValue206
  t212 := Tryz.underlying226
  a212 := Tryz.isAgg226
  z212 := Tryz.sizeOf226
  v212 := Tryz.zeroValue226
  t213 := Tryz.underlying227
  a213 := Tryz.isAgg227
  z213 := Tryz.sizeOf227
  t232 := Tryz.underlying230
  a232 := Tryz.isAgg230
  z232 := Tryz.sizeOf230
  v232 := Tryz.zeroValue230
  t233 := Tryz.underlying231
  a233 := Tryz.isAgg231
  z233 := Tryz.sizeOf231
  v233 := Tryz.zeroValue231
  g15 := by kernel_rfl
  g16 := by kernel_rfl
  g17 := by kernel_rfl
  g18 := by kernel_rfl
  g19 := by kernel_rfl }
open Go.RowKit in
theorem Tryz.strconv_Atoi (s : ByteArray) (n : Int) (hl : s.size ≤ 18) (h : Lib.atoi s.data.toList = some n) (w : World) :
    Calls Tryz.prog 88 #[.string s] w fun e w' => e = .returned (.tuple #[.int .i64 n, .nilIface]) ∧ ∃ t, w' = Lib.bytesWorld w 5 t := Any.strconv_Atoi Tryz.lays172 s n hl h w
end Go.Proofs
namespace Go.Proofs.YtkhgeonlohafgaaGreatDoor.Core
open Go.RowKit Go.Proofs.YtkhgeonlohafgaaGreatDoorW.PrintWords
def isAscii (s : ByteArray) : Bool := s.data.toList.all fun b => decide (b.toNat < 128)
theorem isAscii_at {s : ByteArray} (h : isAscii s = true) (j : Nat) (b : UInt8) (hb : s.data.toList[j]? = some b) : b.toNat < 128 :=
  of_decide_eq_true (List.all_eq_true.1 h b (List.mem_of_getElem? hb))
def strings_ToLower.f (a0 : ByteArray) : Option (ByteArray) := if a0.size ≤ 140737488355328 then (if isAscii a0 = true then (some ⟨(Lib.toLowerA a0.data.toList).toArray⟩) else none) else none
theorem strings_ToLower.calls (a0 : ByteArray) (r : ByteArray) (w : World) (h : strings_ToLower.f a0 = some r) :
    Calls Tryz.prog 75 #[.string a0] w fun e w' => e = .returned (.string r) ∧ Below w.heap.size w w' := by
  unfold strings_ToLower.f at h
  split at h
  · rename_i h1
    split at h
    · rename_i h2
      obtain rfl := Option.some.inj h
      exact Tryz.strings_ToLower_ascii a0 w h1 (fun j b hb => isAscii_at h2 j b hb)
    · cases h
  · cases h
def strings_ToUpper.f (a0 : ByteArray) : Option (ByteArray) := if a0.size ≤ 140737488355328 then (if isAscii a0 = true then (some ⟨(Lib.toUpperA a0.data.toList).toArray⟩) else none) else none
theorem strings_ToUpper.calls (a0 : ByteArray) (r : ByteArray) (w : World) (h : strings_ToUpper.f a0 = some r) :
    Calls Tryz.prog 78 #[.string a0] w fun e w' => e = .returned (.string r) ∧ Below w.heap.size w w' := by
  unfold strings_ToUpper.f at h
  split at h
  · rename_i h1
    split at h
    · rename_i h2
      obtain rfl := Option.some.inj h
      exact Tryz.strings_ToUpper_ascii a0 w h1 (fun j b hb => isAscii_at h2 j b hb)
    · cases h
  · cases h
end Go.Proofs.YtkhgeonlohafgaaGreatDoor.Core
namespace Go.Proofs.YtkhgeonlohafgaaGreatDoor.Core
open Go.RowKit Go.Proofs.YtkhgeonlohafgaaGreatDoorW.PrintWords Go.Proofs.YtkhgeonlohafgaaGreatDoorW.PrintLast Go.Proofs.YtkhgeonlohafgaaGreatDoorW.PrintMore
attribute [local go_sem] max2_int min2_int max_two min_two max_three min_three max_four min_four   -- for this text's walks alone
set_option linter.unusedVariables false
set_option linter.unusedSimpArgs false
def gronx_normalize.j0 : Nat → ByteArray → Option (List ByteArray)
  | 0, _ => none
  | k + 1, x0 => (gronx_zzSpaces.f k x0).bind fun t232 => ((strings_ToUpper.f t232).bind fun t233 => ((gronx_zzLiterals.f k t233).bind fun t234 => ((gronx_zzReplaceAll.f k t234 (⟨#[32, 32]⟩ : ByteArray) (⟨#[32]⟩ : ByteArray)).bind fun t235 => ((gronx_zzSplit.f k t235 (⟨#[32]⟩ : ByteArray)).bind fun t236 => (some t236)))))
def gronx_normalize.f (k : Nat) (a0 : ByteArray) : Option (List ByteArray) := (gronx_zzTrim.f k a0).bind fun t228 => ((strings_ToLower.f t228).bind fun t229 => ((gronx_expression.f t229).bind fun bt230 => (if bt230.2 = true then (gronx_normalize.j0 k bt230.1) else (gronx_normalize.j0 k t228))))
set_option maxHeartbeats 8000000 in
set_option maxRecDepth 100000 in
theorem gronx_normalize.calls (k : Nat) (a0 : ByteArray) (r : List ByteArray) (w : World) (h : gronx_normalize.f k a0 = some r) :
    Calls Tryz.prog 50 #[.string a0] w fun e w' => ∃ v0_ : Value, e = .returned (v0_) ∧ Kd.R Kd.string 9 w' w.heap.size (fun _ => True) v0_ r ∧ Below w.heap.size w w' := by
  have HB := Aside0.mk (Below.refl w.heap.size w)
  have H : ((gronx_zzTrim.f k a0).bind fun t228 => ((strings_ToLower.f t228).bind fun t229 => ((gronx_expression.f t229).bind fun bt230 => (if bt230.2 = true then (gronx_normalize.j0 k bt230.1) else (gronx_normalize.j0 k t228))))) = some r := h
  clear h
  replace H := Option.bind_eq_some_iff.mp H
  obtain ⟨t228, A20, H⟩ := H
  replace H : ((strings_ToLower.f t228).bind fun t229 => ((gronx_expression.f t229).bind fun bt230 => (if bt230.2 = true then (gronx_normalize.j0 k bt230.1) else (gronx_normalize.j0 k t228)))) = some r := H
  have A2 := Aside0.mk A20
  clear A20
  replace H := Option.bind_eq_some_iff.mp H
  obtain ⟨t229, A30, H⟩ := H
  replace H : ((gronx_expression.f t229).bind fun bt230 => (if bt230.2 = true then (gronx_normalize.j0 k bt230.1) else (gronx_normalize.j0 k t228))) = some r := H
  have A3 := Aside0.mk A30
  clear A30
  replace H := Option.bind_eq_some_iff.mp H
  obtain ⟨⟨t230, t231⟩, A40, H⟩ := H
  replace H : (if t231 = true then (gronx_normalize.j0 k t230) else (gronx_normalize.j0 k t228)) = some r := H
  have A4 := Aside0.mk A40
  clear A40
  have HC5 := Aside0.mk H
  clear H
  go_enter Tryz.func50, Tryz.ntmps50
  go_upto_if 13 with (first | ((with_reducible refine gate_callee (f := 73) rfl ?_); refine goesL_ (some 6) rfl rfl Tryz.func73 (by kernel_rfl) rfl #[.string a0] rfl (by (try simp only [List.map_toArray, List.map_cons, List.map_nil]); first | done | rfl | (simp only [List.length_drop, List.length_take]; rfl)) ?_; (with_reducible refine (gronx_zzTrim.calls k a0 t228 _ A2.out).mono ?_); rintro e w' ⟨rfl, ⟨nd, rfl⟩⟩; refine ⟨_, rfl, ?_⟩) | ((with_reducible refine gate_callee (f := 75) rfl ?_); refine goesL_ (some 9) rfl rfl Tryz.func75 (by kernel_rfl) rfl #[.string t228] rfl (by (try simp only [List.map_toArray, List.map_cons, List.map_nil]); first | done | rfl | (simp only [List.length_drop, List.length_take]; rfl)) ?_; (with_reducible refine (strings_ToLower.calls t228 t229 _ A3.out).mono ?_); rintro e w6 ⟨rfl, hb⟩; refine ⟨_, rfl, ?_⟩; have n0_ := Aside0.mk (below_step (by repeat (first | (with_reducible first | exact HB.out | apply below_alloc | apply pw_below_drewN | apply below_drew1) | exact HB.out)) hb); clear HB; have HB := n0_; clear n0_; (try clear hb); (try clear hb2); (try clear hk); (try clear hi)) | ((with_reducible refine gate_callee (f := 74) rfl ?_); refine goesL_ (some 10) rfl rfl Tryz.func74 (by kernel_rfl) rfl #[.string t229] rfl (by (try simp only [List.map_toArray, List.map_cons, List.map_nil]); first | done | rfl | (simp only [List.length_drop, List.length_take]; rfl)) ?_; (with_reducible refine (gronx_expression.calls t229 t230 t231 _ A4.out).mono ?_); rintro e w' ⟨rfl, ⟨nd, rfl⟩⟩; refine ⟨_, rfl, ?_⟩))
  (try simp only [Act.put, List.setIfInBounds_toArray, List.set_cons_zero, List.set_cons_succ])
  go_cut [0] (fun v0 wc => ∃ (kq : Nat) (x0_4 : ByteArray), v0 = .string x0_4 ∧ Aside0 (gronx_normalize.j0 kq x0_4 = some r) ∧ Aside0 (kq ≤ k) ∧ Aside0 (Below w.heap.size w wc))
  case first =>
    have H := HC5.out
    clear HC5
    by_cases c7 : t231 = true
    · subst c7
      have H1 : (gronx_normalize.j0 k t230) = some r := by rw [if_pos rfl] at H; exact H
      clear H
      have H := H1
      clear H1
      have H' := Aside0.mk H
      clear H
      go_wp2
      go_meet
      case rel => exact ⟨_, (t230), (by first | rfl | (simp; done) | (simp [*]; done)), H', ⟨by first | omega | exact Nat.le_refl _⟩, ⟨by repeat (first | (with_reducible first | exact HB.out | apply below_alloc | apply pw_below_drewN | apply below_drew1) | exact HB.out)⟩⟩
    · replace c7 := Bool.eq_false_iff.mpr c7
      subst c7
      have H1 : (gronx_normalize.j0 k t228) = some r := by rw [if_neg (show ¬ (false = true) by decide)] at H; exact H
      clear H
      have H := H1
      clear H1
      have H' := Aside0.mk H
      clear H
      go_wp2
      go_meet
      case rel => exact ⟨_, (t228), (by first | rfl | (simp; done) | (simp [*]; done)), H', ⟨by first | omega | exact Nat.le_refl _⟩, ⟨by repeat (first | (with_reducible first | exact HB.out | apply below_alloc | apply pw_below_drewN | apply below_drew1) | exact HB.out)⟩⟩
  case rest =>
    clear HC5
    try clear p2
    try clear c5
    try clear c7
    obtain ⟨kq, x0_4, rfl, HA, HJ4, HB⟩ := hcut
    cases kq with
    | zero => exact absurd HA.out (by simp [gronx_normalize.j0])
    | succ kj4 =>
      have H := HA.out
      clear HA
      simp only [gronx_normalize.j0] at H
      replace H := Option.bind_eq_some_iff.mp H
      obtain ⟨t232, A80, H⟩ := H
      replace H : ((strings_ToUpper.f t232).bind fun t233 => ((gronx_zzLiterals.f kj4 t233).bind fun t234 => ((gronx_zzReplaceAll.f kj4 t234 (⟨#[32, 32]⟩ : ByteArray) (⟨#[32]⟩ : ByteArray)).bind fun t235 => ((gronx_zzSplit.f kj4 t235 (⟨#[32]⟩ : ByteArray)).bind fun t236 => (some t236))))) = some r := H
      have A8 := Aside0.mk A80
      clear A80
      replace H := Option.bind_eq_some_iff.mp H
      obtain ⟨t233, A90, H⟩ := H
      replace H : ((gronx_zzLiterals.f kj4 t233).bind fun t234 => ((gronx_zzReplaceAll.f kj4 t234 (⟨#[32, 32]⟩ : ByteArray) (⟨#[32]⟩ : ByteArray)).bind fun t235 => ((gronx_zzSplit.f kj4 t235 (⟨#[32]⟩ : ByteArray)).bind fun t236 => (some t236)))) = some r := H
      have A9 := Aside0.mk A90
      clear A90
      replace H := Option.bind_eq_some_iff.mp H
      obtain ⟨t234, A100, H⟩ := H
      replace H : ((gronx_zzReplaceAll.f kj4 t234 (⟨#[32, 32]⟩ : ByteArray) (⟨#[32]⟩ : ByteArray)).bind fun t235 => ((gronx_zzSplit.f kj4 t235 (⟨#[32]⟩ : ByteArray)).bind fun t236 => (some t236))) = some r := H
      have A10 := Aside0.mk A100
      clear A100
      replace H := Option.bind_eq_some_iff.mp H
      obtain ⟨t235, A110, H⟩ := H
      replace H : ((gronx_zzSplit.f kj4 t235 (⟨#[32]⟩ : ByteArray)).bind fun t236 => (some t236)) = some r := H
      have A11 := Aside0.mk A110
      clear A110
      replace H := Option.bind_eq_some_iff.mp H
      obtain ⟨t236, A120, H⟩ := H
      replace H : (some t236) = some r := H
      have A12 := Aside0.mk A120
      clear A120
      obtain rfl := Option.some.inj H
      go_wp2_with (first | ((with_reducible refine gate_callee (f := 76) rfl ?_); refine goesL_ (some 16) rfl rfl Tryz.func76 (by kernel_rfl) rfl #[.string x0_4] rfl (by (try simp only [List.map_toArray, List.map_cons, List.map_nil]); first | done | rfl | (simp only [List.length_drop, List.length_take]; rfl)) ?_; (with_reducible refine (gronx_zzSpaces.calls kj4 x0_4 t232 _ A8.out).mono ?_); rintro e w13 ⟨rfl, hb⟩; refine ⟨_, rfl, ?_⟩; have n0_ := Aside0.mk (below_step (by repeat (first | (with_reducible first | exact HB.out | apply below_alloc | apply pw_below_drewN | apply below_drew1) | exact HB.out)) hb); clear HB; have HB := n0_; clear n0_; (try clear hb); (try clear hb2); (try clear hk); (try clear hi)) | ((with_reducible refine gate_callee (f := 78) rfl ?_); refine goesL_ (some 18) rfl rfl Tryz.func78 (by kernel_rfl) rfl #[.string t232] rfl (by (try simp only [List.map_toArray, List.map_cons, List.map_nil]); first | done | rfl | (simp only [List.length_drop, List.length_take]; rfl)) ?_; (with_reducible refine (strings_ToUpper.calls t232 t233 _ A9.out).mono ?_); rintro e w14 ⟨rfl, hb⟩; refine ⟨_, rfl, ?_⟩; have n0_ := Aside0.mk (below_step (by repeat (first | (with_reducible first | exact HB.out | apply below_alloc | apply pw_below_drewN | apply below_drew1) | exact HB.out)) hb); clear HB; have HB := n0_; clear n0_; (try clear hb); (try clear hb2); (try clear hk); (try clear hi)) | ((with_reducible refine gate_callee (f := 77) rfl ?_); refine goesL_ (some 19) rfl rfl Tryz.func77 (by kernel_rfl) rfl #[.string t233] rfl (by (try simp only [List.map_toArray, List.map_cons, List.map_nil]); first | done | rfl | (simp only [List.length_drop, List.length_take]; rfl)) ?_; (with_reducible refine (gronx_zzLiterals.calls kj4 t233 t234 _ A10.out).mono ?_); rintro e w15 ⟨rfl, hb⟩; refine ⟨_, rfl, ?_⟩; have n0_ := Aside0.mk (below_step (by repeat (first | (with_reducible first | exact HB.out | apply below_alloc | apply pw_below_drewN | apply below_drew1) | exact HB.out)) hb); clear HB; have HB := n0_; clear n0_; (try clear hb); (try clear hb2); (try clear hk); (try clear hi)) | ((with_reducible refine gate_callee (f := 79) rfl ?_); refine goesL_ (some 21) rfl rfl Tryz.func79 (by kernel_rfl) rfl #[.string t234, .string (⟨#[32, 32]⟩ : ByteArray), .string (⟨#[32]⟩ : ByteArray)] rfl (by (try simp only [List.map_toArray, List.map_cons, List.map_nil]); first | done | rfl | (simp only [List.length_drop, List.length_take]; rfl)) ?_; (with_reducible refine (gronx_zzReplaceAll.calls kj4 t234 (⟨#[32, 32]⟩ : ByteArray) (⟨#[32]⟩ : ByteArray) t235 _ A11.out).mono ?_); rintro e w16 ⟨rfl, hb⟩; refine ⟨_, rfl, ?_⟩; have n0_ := Aside0.mk (below_step (by repeat (first | (with_reducible first | exact HB.out | apply below_alloc | apply pw_below_drewN | apply below_drew1) | exact HB.out)) hb); clear HB; have HB := n0_; clear n0_; (try clear hb); (try clear hb2); (try clear hk); (try clear hi)) | ((with_reducible refine gate_callee (f := 54) rfl ?_); refine goesL_ (some 22) rfl rfl Tryz.func54 (by kernel_rfl) rfl #[.string t235, .string (⟨#[32]⟩ : ByteArray)] rfl (by (try simp only [List.map_toArray, List.map_cons, List.map_nil]); first | done | rfl | (simp only [List.length_drop, List.length_take]; rfl)) ?_; (with_reducible refine (gronx_zzSplit.calls kj4 t235 (⟨#[32]⟩ : ByteArray) t236 _ A12.out).mono ?_); rintro e w17 ⟨v237, rfl, ho0, hb⟩; refine ⟨_, rfl, ?_⟩; have n0_ := Aside0.mk (Kd.R_lower ho0 (below_size (by repeat (first | (with_reducible first | exact HB.out | apply below_alloc | apply pw_below_drewN | apply below_drew1) | exact HB.out)))); have n1_ := Aside0.mk (below_step (by repeat (first | (with_reducible first | exact HB.out | apply below_alloc | apply pw_below_drewN | apply below_drew1) | exact HB.out)) hb); clear HB; have HO238 := n0_; have HB := n1_; clear n0_ n1_; (try clear hb); (try clear hb2); (try clear hk); (try clear hi); (try clear ho0)))
      go_ret
      exact ⟨_, by first | rfl | (simp [errW_none, errW_some] <;> rfl) | (simp [*, errW_none, errW_some] <;> rfl), by (with_reducible repeat (first | apply Kd.R_alloc | apply Kd.R_drewN | apply Kd.R_drew)); exact HO238.out, by repeat (first | (with_reducible first | exact HB.out | apply below_alloc | apply pw_below_drewN | apply below_drew1) | exact HB.out)⟩
end Go.Proofs.YtkhgeonlohafgaaGreatDoor.Core
namespace Go.Proofs.YtkhgeonlohafgaaGreatDoor.Core
open Go.RowKit Go.Proofs.YtkhgeonlohafgaaGreatDoorW.PrintWords Go.Proofs.YtkhgeonlohafgaaGreatDoorW.PrintLast Go.Proofs.YtkhgeonlohafgaaGreatDoorW.PrintMore
attribute [local go_sem] max2_int min2_int max_two min_two max_three min_three max_four min_four   -- for this text's walks alone
set_option linter.unusedVariables false
set_option linter.unusedSimpArgs false
mutual
def gronx_zzHasYear.l0 : Nat → ByteArray → Int → Int → Option (Bool)
  | 0, _, _, _ => none
  | k + 1, x0, x3, x4 => if x4 < (x0.size : Int) then (if 0 ≤ x4 then (if (bt x0 x4) < 48 then (gronx_zzHasYear.j1 k x0 x3 x4 true) else (gronx_zzHasYear.j1 k x0 x3 x4 (decide ((bt x0 x4) > 57)))) else (none)) else (some false)
def gronx_zzHasYear.j1 : Nat → ByteArray → Int → Int → Bool → Option (Bool)
  | 0, _, _, _, _ => none
  | k + 1, x0, x3, x4, x20 => if x20 = true then (gronx_zzHasYear.l0 k x0 0 (wrap64 (x4 + 1))) else (if (wrap64 (x3 + 1)) = 4 then (some true) else (gronx_zzHasYear.l0 k x0 (wrap64 (x3 + 1)) (wrap64 (x4 + 1))))
end
def gronx_zzHasYear.f (k : Nat) (a0 : ByteArray) : Option (Bool) := gronx_zzHasYear.l0 k a0 0 0
set_option maxHeartbeats 8000000 in
set_option maxRecDepth 100000 in
theorem gronx_zzHasYear.calls (k : Nat) (a0 : ByteArray) (r : Bool) (w : World) (h : gronx_zzHasYear.f k a0 = some r) :
    Calls Tryz.prog 52 #[.string a0] w fun e w' => e = .returned (.bool r) ∧ Drawn0 w w' := by
  have H : (gronx_zzHasYear.l0 k a0 0 0) = some r := h
  clear h
  have H' := Aside0.mk H
  clear H
  go_enter Tryz.func52, Tryz.ntmps52
  go_wp2
  go_loopg [3, 4] k (fun kq v3 v4 w' => ∃ (x3_1 : Int) (x4_1 : Int), v3 = .int .i64 x3_1 ∧ v4 = .int .i64 x4_1 ∧ Aside0 (gronx_zzHasYear.l0 kq a0 x3_1 x4_1 = some r) ∧ Aside0 (kq ≤ k) ∧ Drawn0 w w')
  case atStart => exact ⟨(0), (0), (by first | rfl | (simp; done) | (simp [*]; done)), (by first | rfl | (simp; done) | (simp [*]; done)), H', ⟨Nat.le_refl _⟩, by repeat (first | exact Drawn0.refl _ | apply Drawn0.step)⟩
  case round =>
    clear H'
    obtain ⟨x3_1, x4_1, rfl, rfl, HA, HK1, ⟨m1, rfl⟩⟩ := hrel
    cases gk with
    | zero => exact absurd HA.out (by simp [gronx_zzHasYear.l0])
    | succ k1 =>
      have H := HA.out
      clear HA
      simp only [gronx_zzHasYear.l0] at H
      by_cases c2 : x4_1 < (a0.size : Int)
      · rw [if_pos c2] at H
        have c2b0 : decide (x4_1 < (a0.size : Int)) = true := decide_eq_true c2
        clear c2
        have HC3 := Aside0.mk H
        clear H
        go_upto_region 5 with (fail)
        go_cut [20] (fun v20 wc => ∃ (kq : Nat) (x20_2 : Bool), v20 = .bool x20_2 ∧ Aside0 (gronx_zzHasYear.j1 kq a0 x3_1 x4_1 x20_2 = some r) ∧ Aside0 (kq ≤ k1) ∧ Drawn0 w wc)
        case first =>
          have H := HC3.out
          clear HC3
          by_cases c4 : 0 ≤ x4_1
          · rw [if_pos c4] at H
            have c4b0 : decide (0 ≤ x4_1) = true := decide_eq_true c4
            clear c4
            (first | rw [c4b0] | (simp only [i64_w, i32_w]; rw [c4b0]) | skip)
            by_cases c6 : (bt a0 x4_1) < 48
            · rw [if_pos c6] at H
              have c6b0 : decide ((bt a0 x4_1) < 48) = true := decide_eq_true c6
              clear c6
              have H' := Aside0.mk H
              clear H
              have p5 : 0 ≤ (x4_1 : Int) := of_decide_eq_true (by first | (with_reducible assumption) | assumption)
              have q5 : x4_1 < (a0.size : Int) := of_decide_eq_true (by first | (with_reducible assumption) | assumption)
              have hx5 := bt_at a0 x4_1
              replace p5 := eq_true p5
              replace q5 := eq_true q5
              go_wp2
              go_meet
              case rel => exact ⟨_, (true), (by first | rfl | (simp; done) | (simp [*]; done)), H', ⟨by have := HK1.out; first | omega | exact Nat.le_refl _⟩, by repeat (first | exact Drawn0.refl _ | apply Drawn0.step)⟩
            · rw [if_neg c6] at H
              have c6b0 : decide ((bt a0 x4_1) < 48) = false := decide_eq_false c6
              clear c6
              have H' := Aside0.mk H
              clear H
              have p5 : 0 ≤ (x4_1 : Int) := of_decide_eq_true (by first | (with_reducible assumption) | assumption)
              have q5 : x4_1 < (a0.size : Int) := of_decide_eq_true (by first | (with_reducible assumption) | assumption)
              have hx5 := bt_at a0 x4_1
              replace p5 := eq_true p5
              replace q5 := eq_true q5
              have p7 : 0 ≤ (x4_1 : Int) := of_decide_eq_true (by first | (with_reducible assumption) | assumption)
              have q7 : x4_1 < (a0.size : Int) := of_decide_eq_true (by first | (with_reducible assumption) | assumption)
              have hx7 := bt_at a0 x4_1
              replace p7 := eq_true p7
              replace q7 := eq_true q7
              go_wp2
              go_meet
              case rel => exact ⟨_, (decide ((bt a0 x4_1) > 57)), (by first | rfl | (simp; done) | (simp [*]; done)), H', ⟨by have := HK1.out; first | omega | exact Nat.le_refl _⟩, by repeat (first | exact Drawn0.refl _ | apply Drawn0.step)⟩
          · rw [if_neg c4] at H
            exact absurd H (by simp)
        case rest =>
          clear HC3
          try clear c2
          try clear c2b0
          try clear p2
          try clear c4
          try clear c4b0
          try clear c5
          try clear p5
          try clear q5
          try clear hx5
          try clear c6
          try clear c6b0
          try clear p7
          try clear q7
          try clear hx7
          try clear p5
          try clear p7
          try clear q5
          try clear q7
          obtain ⟨kq, x20_2, rfl, HA, HJ2, ⟨mc2, rfl⟩⟩ := hcut
          cases kq with
          | zero => exact absurd HA.out (by simp [gronx_zzHasYear.j1])
          | succ kj2 =>
            have H := HA.out
            clear HA
            simp only [gronx_zzHasYear.j1] at H
            by_cases c8 : x20_2 = true
            · subst c8
              have H1 : (gronx_zzHasYear.l0 kj2 a0 0 (wrap64 (x4_1 + 1))) = some r := by rw [if_pos rfl] at H; exact H
              clear H
              have H := H1
              clear H1
              have H' := Aside0.mk H
              clear H
              go_wp2
              go_roundg kj2
              case measure => have := HK1.out; have := HJ2.out; omega
              case rel => exact ⟨(0), (wrap64 (x4_1 + 1)), (by first | rfl | (simp; done) | (simp [*]; done)), (by first | rfl | (simp; done) | (simp [*]; done)), H', ⟨by have := HK1.out; have := HJ2.out; omega⟩, by repeat (first | exact Drawn0.refl _ | apply Drawn0.step)⟩
            · replace c8 := Bool.eq_false_iff.mpr c8
              subst c8
              have H1 : (if (wrap64 (x3_1 + 1)) = 4 then (some true) else (gronx_zzHasYear.l0 kj2 a0 (wrap64 (x3_1 + 1)) (wrap64 (x4_1 + 1)))) = some r := by rw [if_neg (show ¬ (false = true) by decide)] at H; exact H
              clear H
              have H := H1
              clear H1
              by_cases c9 : (wrap64 (x3_1 + 1)) = 4
              · rw [if_pos c9] at H
                have c9b0 : ((wrap64 (x3_1 + 1)) == 4) = true := beq_iff_eq.mpr c9
                have c9b1 : ((wrap64 (x3_1 + 1)) != 4) = false := bne_eq_false_iff_eq.mpr c9
                clear c9
                obtain rfl := Option.some.inj H
                go_wp2
                go_ret
                exact ⟨by first | rfl | (simp; done) | (simp [*]; done), by repeat (first | exact Drawn0.refl _ | apply Drawn0.step)⟩
              · rw [if_neg c9] at H
                have c9b0 : ((wrap64 (x3_1 + 1)) == 4) = false := beq_eq_false_iff_ne.mpr c9
                have c9b1 : ((wrap64 (x3_1 + 1)) != 4) = true := bne_iff_ne.mpr c9
                have H' := Aside0.mk H
                clear H
                go_wp2
                go_roundg kj2
                case measure => have := HK1.out; have := HJ2.out; omega
                case rel => exact ⟨(wrap64 (x3_1 + 1)), (wrap64 (x4_1 + 1)), (by first | rfl | (simp; done) | (simp [*]; done)), (by first | rfl | (simp; done) | (simp [*]; done)), H', ⟨by have := HK1.out; have := HJ2.out; omega⟩, by repeat (first | exact Drawn0.refl _ | apply Drawn0.step)⟩
      · rw [if_neg c2] at H
        have c2b0 : decide (x4_1 < (a0.size : Int)) = false := decide_eq_false c2
        clear c2
        obtain rfl := Option.some.inj H
        go_wp2
        go_ret
        exact ⟨by first | rfl | (simp; done) | (simp [*]; done), by repeat (first | exact Drawn0.refl _ | apply Drawn0.step)⟩
end Go.Proofs.YtkhgeonlohafgaaGreatDoor.Core
namespace Go.Proofs.YtkhgeonlohafgaaGreatDoor.Core
open Go.RowKit Go.Proofs.YtkhgeonlohafgaaGreatDoorW.PrintWords Go.Proofs.YtkhgeonlohafgaaGreatDoorW.PrintLast Go.Proofs.YtkhgeonlohafgaaGreatDoorW.PrintMore
attribute [local go_sem] max2_int min2_int max_two min_two max_three min_three max_four min_four   -- for this text's walks alone
set_option linter.unusedVariables false
set_option linter.unusedSimpArgs false
def gronx_Segments.j0 : Nat → List ByteArray → Int → Bool → Option (List ByteArray × Option Int)
  | 0, _, _, _ => none
  | k + 1, x4, x5, x16 => if x16 = true then ((errors_New.f (⟨#[101, 120, 112, 114, 32, 115, 104, 111, 117, 108, 100, 32, 99, 111, 110, 116, 97, 105, 110, 32, 53, 45, 55, 32, 115, 101, 103, 109, 101, 110, 116, 115, 32, 115, 101, 112, 97, 114, 97, 116, 101, 100, 32, 98, 121, 32, 115, 112, 97, 99, 101]⟩ : ByteArray)).bind fun t245 => (some ((([] : List ByteArray)), t245))) else (if x5 = 5 then ((some (([(⟨#[48]⟩ : ByteArray)] : List ByteArray) : List ByteArray)).bind fun y246 => (if y246.length + x4.length < 8796093022208 then (some ((y246 ++ x4), none)) else (none))) else (if x5 = 6 then (if 5 < (x4.length : Int) then ((gronx_zzHasYear.f k (rdOf ByteArray.empty x4 5)).bind fun t253 => (if t253 = true then ((some (([(⟨#[48]⟩ : ByteArray)] : List ByteArray) : List ByteArray)).bind fun y254 => (if y254.length + x4.length < 8796093022208 then (some ((y254 ++ x4), none)) else (none))) else (some (x4, none)))) else (none)) else (some (x4, none))))
def gronx_Segments.f (k : Nat) (a0 : ByteArray) : Option (List ByteArray × Option Int) := (gronx_normalize.f k a0).bind fun t239 => (if (t239.length : Int) < 5 then (gronx_Segments.j0 k t239 (t239.length : Int) true) else (gronx_Segments.j0 k t239 (t239.length : Int) (decide ((t239.length : Int) > 7))))
set_option maxHeartbeats 8000000 in
set_option maxRecDepth 100000 in
theorem gronx_Segments.calls (k : Nat) (a0 : ByteArray) (r1 : List ByteArray) (r2 : Option Int) (w : World) (h : gronx_Segments.f k a0 = some (r1, r2)) :
    Calls Tryz.prog 36 #[.string a0] w fun e w' => ∃ v0_ : Value, e = .returned (.tuple #[v0_, errW r2]) ∧ Kd.R Kd.string 9 w' w.heap.size (fun _ => True) v0_ r1 ∧ Below w.heap.size w w' := by
  have HB := Aside0.mk (Below.refl w.heap.size w)
  have H : ((gronx_normalize.f k a0).bind fun t239 => (if (t239.length : Int) < 5 then (gronx_Segments.j0 k t239 (t239.length : Int) true) else (gronx_Segments.j0 k t239 (t239.length : Int) (decide ((t239.length : Int) > 7))))) = some (r1, r2) := h
  clear h
  replace H := Option.bind_eq_some_iff.mp H
  obtain ⟨t239, A20, H⟩ := H
  replace H : (if (t239.length : Int) < 5 then (gronx_Segments.j0 k t239 (t239.length : Int) true) else (gronx_Segments.j0 k t239 (t239.length : Int) (decide ((t239.length : Int) > 7)))) = some (r1, r2) := H
  have A2 := Aside0.mk A20
  clear A20
  have HC3 := Aside0.mk H
  clear H
  go_enter Tryz.func36, Tryz.ntmps36
  go_upto_region 3 with (first | ((with_reducible refine gate_callee (f := 50) rfl ?_); refine goesL_ (some 8) rfl rfl Tryz.func50 (by kernel_rfl) rfl #[.string a0] rfl (by (try simp only [List.map_toArray, List.map_cons, List.map_nil]); first | done | rfl | (simp only [List.length_drop, List.length_take]; rfl)) ?_; (with_reducible refine (gronx_normalize.calls k a0 t239 _ A2.out).mono ?_); rintro e w4 ⟨v240, rfl, ho0, hb⟩; refine ⟨_, rfl, ?_⟩; have n0_ := Aside0.mk (Kd.R_lower ho0 (below_size (by repeat (first | (with_reducible first | exact HB.out | apply below_alloc | apply pw_below_drewN | apply below_drew1) | exact HB.out)))); have n1_ := Aside0.mk (below_step (by repeat (first | (with_reducible first | exact HB.out | apply below_alloc | apply pw_below_drewN | apply below_drew1) | exact HB.out)) hb); clear HB; have HO241 := n0_; have HB := n1_; clear n0_ n1_; (try clear hb); (try clear hb2); (try clear hk); (try clear hi); (try clear ho0); obtain ⟨Ao5, co5, eo5⟩ := Kd.R_slice HO241.out; subst eo5))
  (try simp only [Act.put, List.setIfInBounds_toArray, List.set_cons_zero, List.set_cons_succ])
  go_cut [16] (fun v16 wc => ∃ (kq : Nat) (x16_2 : Bool), v16 = .bool x16_2 ∧ Aside0 (gronx_Segments.j0 kq t239 (t239.length : Int) x16_2 = some (r1, r2)) ∧ Aside0 (kq ≤ k) ∧ Aside0 (Kd.R Kd.string 9 wc w.heap.size (fun _ => True) (.slice Ao5 t239.length co5) t239) ∧ Aside0 (Below w.heap.size w wc))
  case first =>
    have H := HC3.out
    clear HC3
    by_cases c6 : (t239.length : Int) < 5
    · rw [if_pos c6] at H
      have c6b0 : decide ((t239.length : Int) < 5) = true := decide_eq_true c6
      have c6b1 : decide (t239.length < 5) = true := decide_eq_true (by omega)
      clear c6
      (first | rw [c6b0] | (simp only [i64_w, i32_w]; rw [c6b0]) | skip)
      have H' := Aside0.mk H
      clear H
      go_wp2
      go_meet
      case rel => exact ⟨_, (true), (by first | rfl | (simp; done) | (simp [*]; done)), H', ⟨by first | omega | exact Nat.le_refl _⟩, ⟨by (with_reducible repeat (first | apply Kd.R_alloc | apply Kd.R_drewN | apply Kd.R_drew)); exact HO241.out⟩, ⟨by repeat (first | (with_reducible first | exact HB.out | apply below_alloc | apply pw_below_drewN | apply below_drew1) | exact HB.out)⟩⟩
    · rw [if_neg c6] at H
      have c6b0 : decide ((t239.length : Int) < 5) = false := decide_eq_false c6
      have c6b1 : decide (t239.length < 5) = false := decide_eq_false (by omega)
      clear c6
      (first | rw [c6b0] | (simp only [i64_w, i32_w]; rw [c6b0]) | skip)
      have H' := Aside0.mk H
      clear H
      go_wp2
      go_meet
      case rel => exact ⟨_, (decide ((t239.length : Int) > 7)), (by first | rfl | (simp; done) | (simp [*]; done)), H', ⟨by first | omega | exact Nat.le_refl _⟩, ⟨by (with_reducible repeat (first | apply Kd.R_alloc | apply Kd.R_drewN | apply Kd.R_drew)); exact HO241.out⟩, ⟨by repeat (first | (with_reducible first | exact HB.out | apply below_alloc | apply pw_below_drewN | apply below_drew1) | exact HB.out)⟩⟩
  case rest =>
    clear HC3
    try clear p2
    try clear c3
    try clear c5
    try clear c6
    try clear c6b0
    try clear c6b1
    obtain ⟨kq, x16_2, rfl, HA, HJ2, HO_4, HB⟩ := hcut
    cases kq with
    | zero => exact absurd HA.out (by simp [gronx_Segments.j0])
    | succ kj2 =>
      have H := HA.out
      clear HA
      simp only [gronx_Segments.j0] at H
      by_cases c7 : x16_2 = true
      · subst c7
        have H1 : ((errors_New.f (⟨#[101, 120, 112, 114, 32, 115, 104, 111, 117, 108, 100, 32, 99, 111, 110, 116, 97, 105, 110, 32, 53, 45, 55, 32, 115, 101, 103, 109, 101, 110, 116, 115, 32, 115, 101, 112, 97, 114, 97, 116, 101, 100, 32, 98, 121, 32, 115, 112, 97, 99, 101]⟩ : ByteArray)).bind fun t245 => (some ((([] : List ByteArray)), t245))) = some (r1, r2) := by rw [if_pos rfl] at H; exact H
        clear H
        have H := H1
        clear H1
        obtain ⟨y242, hy242⟩ : ∃ y_ : List ByteArray, y_ = (([] : List ByteArray)) := ⟨_, rfl⟩
        replace H : ((errors_New.f (⟨#[101, 120, 112, 114, 32, 115, 104, 111, 117, 108, 100, 32, 99, 111, 110, 116, 97, 105, 110, 32, 53, 45, 55, 32, 115, 101, 103, 109, 101, 110, 116, 115, 32, 115, 101, 112, 97, 114, 97, 116, 101, 100, 32, 98, 121, 32, 115, 112, 97, 99, 101]⟩ : ByteArray)).bind fun t245 => (some (y242, t245))) = some (r1, r2) := by first | (rw [hy242]; with_reducible exact H) | (have H2_ := (Option.bind_some _ _).symm.trans H; rw [hy242]; with_reducible exact H2_) | (have H2_ := (Option.bind_some _ _).symm.trans H; with_reducible exact H2_) | with_reducible exact H | (rw [hy242]; exact H) | exact H
        have Ny242 := Aside0.mk hy242
        clear hy242
        replace H := Option.bind_eq_some_iff.mp H
        obtain ⟨t245, A80, H⟩ := H
        replace H : (some (y242, t245)) = some (r1, r2) := H
        have A8 := Aside0.mk A80
        clear A80
        simp only [Option.some.injEq, Prod.mk.injEq] at H
        obtain ⟨rfl, rfl⟩ := H
        go_wp2_with (first | ((with_reducible refine gate_dst (N := 17) rfl ?_); refine Kd.R_lit Kd.string _ 9 ?hg (N := 17) ?hd (xs := ([] : List ByteArray)) (inner := []) (ok := fun _ => True) (okp := fun _ => True) ?hr ?hp (fun _ hk => hk) trivial (Below.refl _ _) (Nat.le_refl _) (by simp) ?_; (case hd => rfl); (case hg => rfl); (case hr => first | (go_simp; done) | (go_simp; rfl)); (case hp => exact (Reps.none _ _)); intro v243 w9 ho10 hb hg_ hnew_; clear hg_ hnew_; (first | rw [← Ny242.out] at ho10 | (simp only [Int.reduceToNat] at ho10; rw [← Ny242.out] at ho10)); have n0_ := Aside0.mk (Kd.R_elder' (by (with_reducible repeat (first | apply Kd.R_alloc | apply Kd.R_drewN | apply Kd.R_drew)); exact HO_4.out) (Kd.R_base ho10) hb); have n1_ := Aside0.mk (Kd.R_lower (Kd.R_new' ho10 (Kd.R_lt (by (with_reducible repeat (first | apply Kd.R_alloc | apply Kd.R_drewN | apply Kd.R_drew)); exact HO_4.out))) (below_size (by repeat (first | (with_reducible first | exact HB.out | apply below_alloc | apply pw_below_drewN | apply below_drew1) | exact HB.out)))); have n2_ := Aside0.mk (below_step (by repeat (first | (with_reducible first | exact HB.out | apply below_alloc | apply pw_below_drewN | apply below_drew1) | exact HB.out)) hb); clear HO_4; clear HB; have HO_4 := n0_; have HO244 := n1_; have HB := n2_; clear n0_ n1_ n2_; clear hb ho10) | ((with_reducible refine gate_callee (f := 51) rfl ?_); refine goesL_ (some 18) rfl rfl Tryz.func51 (by kernel_rfl) rfl #[.string (⟨#[101, 120, 112, 114, 32, 115, 104, 111, 117, 108, 100, 32, 99, 111, 110, 116, 97, 105, 110, 32, 53, 45, 55, 32, 115, 101, 103, 109, 101, 110, 116, 115, 32, 115, 101, 112, 97, 114, 97, 116, 101, 100, 32, 98, 121, 32, 115, 112, 97, 99, 101]⟩ : ByteArray)] rfl (by (try simp only [List.map_toArray, List.map_cons, List.map_nil]); first | done | rfl | (simp only [List.length_drop, List.length_take]; rfl)) ?_; (with_reducible refine (errors_New.calls (⟨#[101, 120, 112, 114, 32, 115, 104, 111, 117, 108, 100, 32, 99, 111, 110, 116, 97, 105, 110, 32, 53, 45, 55, 32, 115, 101, 103, 109, 101, 110, 116, 115, 32, 115, 101, 112, 97, 114, 97, 116, 101, 100, 32, 98, 121, 32, 115, 112, 97, 99, 101]⟩ : ByteArray) t245 _ A8.out).mono ?_); rintro e w11 ⟨rfl, hb⟩; refine ⟨_, rfl, ?_⟩; have n0_ := Aside0.mk (Kd.R_below (by (with_reducible repeat (first | apply Kd.R_alloc | apply Kd.R_drewN | apply Kd.R_drew)); exact HO_4.out) hb); have n1_ := Aside0.mk (Kd.R_below (by (with_reducible repeat (first | apply Kd.R_alloc | apply Kd.R_drewN | apply Kd.R_drew)); exact HO244.out) hb); have n2_ := Aside0.mk (below_step (by repeat (first | (with_reducible first | exact HB.out | apply below_alloc | apply pw_below_drewN | apply below_drew1) | exact HB.out)) hb); clear HO_4; clear HO244; clear HB; have HO_4 := n0_; have HO244 := n1_; have HB := n2_; clear n0_ n1_ n2_; (try clear hb); (try clear hb2); (try clear hk); (try clear hi); (try simp only [errW_none, errW_some])))
        go_ret2
        exact ⟨_, by first | rfl | (simp [errW_none, errW_some] <;> rfl) | (simp [*, errW_none, errW_some] <;> rfl), by (with_reducible repeat (first | apply Kd.R_alloc | apply Kd.R_drewN | apply Kd.R_drew)); exact Kd.R_mono HO244.out (fun _ hk => trivial), by repeat (first | (with_reducible first | exact HB.out | apply below_alloc | apply pw_below_drewN | apply below_drew1) | exact HB.out)⟩
      · replace c7 := Bool.eq_false_iff.mpr c7
        subst c7
        have H1 : (if (t239.length : Int) = 5 then ((some (([(⟨#[48]⟩ : ByteArray)] : List ByteArray) : List ByteArray)).bind fun y246 => (if y246.length + t239.length < 8796093022208 then (some ((y246 ++ t239), none)) else (none))) else (if (t239.length : Int) = 6 then (if 5 < (t239.length : Int) then ((gronx_zzHasYear.f kj2 (rdOf ByteArray.empty t239 5)).bind fun t253 => (if t253 = true then ((some (([(⟨#[48]⟩ : ByteArray)] : List ByteArray) : List ByteArray)).bind fun y254 => (if y254.length + t239.length < 8796093022208 then (some ((y254 ++ t239), none)) else (none))) else (some (t239, none)))) else (none)) else (some (t239, none)))) = some (r1, r2) := by rw [if_neg (show ¬ (false = true) by decide)] at H; exact H
        clear H
        have H := H1
        clear H1
        by_cases c12 : (t239.length : Int) = 5
        · rw [if_pos c12] at H
          have c12b0 : ((t239.length : Int) == 5) = true := beq_iff_eq.mpr c12
          have c12b1 : ((t239.length : Int) != 5) = false := bne_eq_false_iff_eq.mpr c12
          clear c12
          obtain ⟨y246, hy246⟩ : ∃ y_ : List ByteArray, y_ = (([(⟨#[48]⟩ : ByteArray)] : List ByteArray)) := ⟨_, rfl⟩
          replace H : (if y246.length + t239.length < 8796093022208 then (some ((y246 ++ t239), none)) else (none)) = some (r1, r2) := by first | (rw [hy246]; with_reducible exact H) | (have H2_ := (Option.bind_some _ _).symm.trans H; rw [hy246]; with_reducible exact H2_) | (have H2_ := (Option.bind_some _ _).symm.trans H; with_reducible exact H2_) | with_reducible exact H | (rw [hy246]; exact H) | exact H
          have Ny246 := Aside0.mk hy246
          clear hy246
          by_cases c13 : y246.length + t239.length < 8796093022208
          · rw [if_pos c13] at H
            have LMc13 := Aside0.mk c13
            clear c13
            obtain ⟨y249, hy249⟩ : ∃ y_ : List ByteArray, y_ = (y246 ++ t239) := ⟨_, rfl⟩
            replace H : (some (y249, none)) = some (r1, r2) := by first | (rw [hy249]; with_reducible exact H) | (have H2_ := (Option.bind_some _ _).symm.trans H; rw [hy249]; with_reducible exact H2_) | (have H2_ := (Option.bind_some _ _).symm.trans H; with_reducible exact H2_) | with_reducible exact H | (rw [hy249]; exact H) | exact H
            have Ny249 := Aside0.mk hy249
            clear hy249
            simp only [Option.some.injEq, Prod.mk.injEq] at H
            obtain ⟨rfl, rfl⟩ := H
            go_wp2_with (first | ((with_reducible refine gate_dst (N := 32) rfl ?_); refine Kd.R_lit Kd.string _ 9 ?hg (N := 32) ?hd (xs := ([(⟨#[48]⟩ : ByteArray)] : List ByteArray)) (inner := [.string (⟨#[48]⟩ : ByteArray)]) (ok := fun _ => True) (okp := fun _ => True) ?hr ?hp (fun _ hk => hk) trivial (Below.refl _ _) (Nat.le_refl _) (by simp) ?_; (case hd => rfl); (case hg => rfl); (case hr => first | (go_simp; done) | (go_simp; rfl)); (case hp => exact (Reps.one (show Kd.M Kd.string _ _ _ (⟨#[48]⟩ : ByteArray) [.string (⟨#[48]⟩ : ByteArray)] from rfl) (Reps.none _ _))); intro v247 w14 ho15 hb hg_ hnew_; clear hg_ hnew_; (first | rw [← Ny246.out] at ho15 | (simp only [Int.reduceToNat] at ho15; rw [← Ny246.out] at ho15)); have n0_ := Aside0.mk (Kd.R_elder' (by (with_reducible repeat (first | apply Kd.R_alloc | apply Kd.R_drewN | apply Kd.R_drew)); exact HO_4.out) (Kd.R_base ho15) hb); have n1_ := Aside0.mk (Kd.R_lower (Kd.R_new' ho15 (Kd.R_lt (by (with_reducible repeat (first | apply Kd.R_alloc | apply Kd.R_drewN | apply Kd.R_drew)); exact HO_4.out))) (below_size (by repeat (first | (with_reducible first | exact HB.out | apply below_alloc | apply pw_below_drewN | apply below_drew1) | exact HB.out)))); have n2_ := Aside0.mk (below_step (by repeat (first | (with_reducible first | exact HB.out | apply below_alloc | apply pw_below_drewN | apply below_drew1) | exact HB.out)) hb); clear HO_4; clear HB; have HO_4 := n0_; have HO248 := n1_; have HB := n2_; clear n0_ n1_ n2_; clear hb ho15) | ((with_reducible refine gate_builtin (b := .append) (xs := #[.tmp 32, .tmp 33]) rfl ?_); at_builtin; refine Kd.R_append_rows Kd.string (w0 := w) w.heap.size rfl (.tmp 32) (.tmp 33) 43 9 (.string ⟨#[]⟩) 16 rfl Tryz.underlying43 info9 rfl (by decide) (by omega) v247 y246 t239 _ _ _ (fun k_ => some k_ ≠ (.slice Ao5 t239.length co5 : Value).ownBlock) (fun _ => False) rfl rfl ?aO ?aR (fun _ _ h => h) (fun _ h => h.elim) ?aF ?aB ?aS ?aL ?_; (case aR => repeat (first | exact (Kd.R_reads' HO_4.out).2.2 | (with_reducible refine Kd.C_alloc ?_ _) | (with_reducible refine Kd.C_drewN ?_ _) | (with_reducible refine Kd.C_drew ?_))); (case aB => exact (by repeat (first | (with_reducible first | exact HB.out | apply below_alloc | apply pw_below_drewN | apply below_drew1) | exact HB.out))); (case aF => exact (fun k_ hk => Kd.fresh' (Kd.R_lt (by (with_reducible repeat (first | apply Kd.R_alloc | apply Kd.R_drewN | apply Kd.R_drew)); exact HO_4.out)) k_ hk)); (case aO => exact (by (with_reducible repeat (first | apply Kd.R_alloc | apply Kd.R_drewN | apply Kd.R_drew)); exact Kd.R_mono HO248.out (fun _ hk => hk.2))); (case aS => exact (below_size (by repeat (first | (with_reducible first | exact HB.out | apply below_alloc | apply pw_below_drewN | apply below_drew1) | exact HB.out)))); (case aL => have := LMc13.out; omega); intro v250 w16 ho hb hg hat; rw [← Ny249.out] at ho; have n0_ := Aside0.mk (Kd.R_after (ok := (fun _ => True)) (by (with_reducible repeat (first | apply Kd.R_alloc | apply Kd.R_drewN | apply Kd.R_drew)); exact HO_4.out) hg hat); have n1_ := Aside0.mk (hb); have n2_ := Aside0.mk (ho); clear HO_4; clear HB; clear HO248; have HO_4 := n0_; have HB := n1_; have HO251 := n2_; clear n0_ n1_ n2_; clear ho hb hg hat))
            go_ret2
            exact ⟨_, by first | rfl | (simp [errW_none, errW_some] <;> rfl) | (simp [*, errW_none, errW_some] <;> rfl), by (with_reducible repeat (first | apply Kd.R_alloc | apply Kd.R_drewN | apply Kd.R_drew)); exact Kd.R_mono HO251.out (fun _ hk => trivial), by repeat (first | (with_reducible first | exact HB.out | apply below_alloc | apply pw_below_drewN | apply below_drew1) | exact HB.out)⟩
          · rw [if_neg c13] at H
            exact absurd H (by simp)
        · rw [if_neg c12] at H
          have c12b0 : ((t239.length : Int) == 5) = false := beq_eq_false_iff_ne.mpr c12
          have c12b1 : ((t239.length : Int) != 5) = true := bne_iff_ne.mpr c12
          by_cases c17 : (t239.length : Int) = 6
          · rw [if_pos c17] at H
            have c17b0 : ((t239.length : Int) == 6) = true := beq_iff_eq.mpr c17
            have c17b1 : ((t239.length : Int) != 6) = false := bne_eq_false_iff_eq.mpr c17
            clear c17
            by_cases c18 : 5 < (t239.length : Int)
            · rw [if_pos c18] at H
              have c18b0 : decide (5 < (t239.length : Int)) = true := decide_eq_true c18
              have c18b1 : decide (5 < t239.length) = true := decide_eq_true (by omega)
              clear c18
              replace H := Option.bind_eq_some_iff.mp H
              obtain ⟨t253, A190, H⟩ := H
              replace H : (if t253 = true then ((some (([(⟨#[48]⟩ : ByteArray)] : List ByteArray) : List ByteArray)).bind fun y254 => (if y254.length + t239.length < 8796093022208 then (some ((y254 ++ t239), none)) else (none))) else (some (t239, none))) = some (r1, r2) := H
              have A19 := Aside0.mk A190
              clear A190
              by_cases c20 : t253 = true
              · subst c20
                have H1 : ((some (([(⟨#[48]⟩ : ByteArray)] : List ByteArray) : List ByteArray)).bind fun y254 => (if y254.length + t239.length < 8796093022208 then (some ((y254 ++ t239), none)) else (none))) = some (r1, r2) := by rw [if_pos rfl] at H; exact H
                clear H
                have H := H1
                clear H1
                obtain ⟨y254, hy254⟩ : ∃ y_ : List ByteArray, y_ = (([(⟨#[48]⟩ : ByteArray)] : List ByteArray)) := ⟨_, rfl⟩
                replace H : (if y254.length + t239.length < 8796093022208 then (some ((y254 ++ t239), none)) else (none)) = some (r1, r2) := by first | (rw [hy254]; with_reducible exact H) | (have H2_ := (Option.bind_some _ _).symm.trans H; rw [hy254]; with_reducible exact H2_) | (have H2_ := (Option.bind_some _ _).symm.trans H; with_reducible exact H2_) | with_reducible exact H | (rw [hy254]; exact H) | exact H
                have Ny254 := Aside0.mk hy254
                clear hy254
                by_cases c21 : y254.length + t239.length < 8796093022208
                · rw [if_pos c21] at H
                  have LMc21 := Aside0.mk c21
                  clear c21
                  obtain ⟨y257, hy257⟩ : ∃ y_ : List ByteArray, y_ = (y254 ++ t239) := ⟨_, rfl⟩
                  replace H : (some (y257, none)) = some (r1, r2) := by first | (rw [hy257]; with_reducible exact H) | (have H2_ := (Option.bind_some _ _).symm.trans H; rw [hy257]; with_reducible exact H2_) | (have H2_ := (Option.bind_some _ _).symm.trans H; with_reducible exact H2_) | with_reducible exact H | (rw [hy257]; exact H) | exact H
                  have Ny257 := Aside0.mk hy257
                  clear hy257
                  simp only [Option.some.injEq, Prod.mk.injEq] at H
                  obtain ⟨rfl, rfl⟩ := H
                  have p252 : 0 ≤ (5 : Int) := (by omega)
                  have q252 : 5 < (t239.length : Int) := of_decide_eq_true (by first | (with_reducible assumption) | assumption)
                  obtain ⟨ad252, e252, hx252_0⟩ := Kd.at_string (Kd.R_reads' HO_4.out).2.2 5 p252 q252
                  cases e252
                  (try simp only [show (5 : Int).toNat = 5 from rfl, Nat.reduceMul, Nat.reduceEqDiff, Go.Addr.add, ↓reduceIte] at hx252_0)
                  have qi252 : (5 < t239.length) = True := eq_true (by omega)
                  (try rw [show ((5 : Int)).toNat = 5 from rfl] at hx252_0)
                  replace p252 := eq_true p252
                  replace q252 := eq_true q252
                  go_wp2_with (first | (go_at_call 52; (with_reducible refine (gronx_zzHasYear.calls kj2 (rdOf ByteArray.empty t239 5) true _ A19.out).mono ?_); rintro e w' ⟨rfl, ⟨nd, rfl⟩⟩) | ((with_reducible refine gate_dst (N := 32) rfl ?_); refine Kd.R_lit Kd.string _ 9 ?hg (N := 32) ?hd (xs := ([(⟨#[48]⟩ : ByteArray)] : List ByteArray)) (inner := [.string (⟨#[48]⟩ : ByteArray)]) (ok := fun _ => True) (okp := fun _ => True) ?hr ?hp (fun _ hk => hk) trivial (Below.refl _ _) (Nat.le_refl _) (by simp) ?_; (case hd => rfl); (case hg => rfl); (case hr => first | (go_simp; done) | (go_simp; rfl)); (case hp => exact (Reps.one (show Kd.M Kd.string _ _ _ (⟨#[48]⟩ : ByteArray) [.string (⟨#[48]⟩ : ByteArray)] from rfl) (Reps.none _ _))); intro v255 w22 ho23 hb hg_ hnew_; clear hg_ hnew_; (first | rw [← Ny254.out] at ho23 | (simp only [Int.reduceToNat] at ho23; rw [← Ny254.out] at ho23)); have n0_ := Aside0.mk (Kd.R_elder' (by (with_reducible repeat (first | apply Kd.R_alloc | apply Kd.R_drewN | apply Kd.R_drew)); exact HO_4.out) (Kd.R_base ho23) hb); have n1_ := Aside0.mk (Kd.R_lower (Kd.R_new' ho23 (Kd.R_lt (by (with_reducible repeat (first | apply Kd.R_alloc | apply Kd.R_drewN | apply Kd.R_drew)); exact HO_4.out))) (below_size (by repeat (first | (with_reducible first | exact HB.out | apply below_alloc | apply pw_below_drewN | apply below_drew1) | exact HB.out)))); have n2_ := Aside0.mk (below_step (by repeat (first | (with_reducible first | exact HB.out | apply below_alloc | apply pw_below_drewN | apply below_drew1) | exact HB.out)) hb); clear HO_4; clear HB; have HO_4 := n0_; have HO256 := n1_; have HB := n2_; clear n0_ n1_ n2_; clear hb ho23) | ((with_reducible refine gate_builtin (b := .append) (xs := #[.tmp 32, .tmp 33]) rfl ?_); at_builtin; refine Kd.R_append_rows Kd.string (w0 := w) w.heap.size rfl (.tmp 32) (.tmp 33) 43 9 (.string ⟨#[]⟩) 16 rfl Tryz.underlying43 info9 rfl (by decide) (by omega) v255 y254 t239 _ _ _ (fun k_ => some k_ ≠ (.slice (some ad252) t239.length co5 : Value).ownBlock) (fun _ => False) rfl rfl ?aO ?aR (fun _ _ h => h) (fun _ h => h.elim) ?aF ?aB ?aS ?aL ?_; (case aR => repeat (first | exact (Kd.R_reads' HO_4.out).2.2 | (with_reducible refine Kd.C_alloc ?_ _) | (with_reducible refine Kd.C_drewN ?_ _) | (with_reducible refine Kd.C_drew ?_))); (case aB => exact (by repeat (first | (with_reducible first | exact HB.out | apply below_alloc | apply pw_below_drewN | apply below_drew1) | exact HB.out))); (case aF => exact (fun k_ hk => Kd.fresh' (Kd.R_lt (by (with_reducible repeat (first | apply Kd.R_alloc | apply Kd.R_drewN | apply Kd.R_drew)); exact HO_4.out)) k_ hk)); (case aO => exact (by (with_reducible repeat (first | apply Kd.R_alloc | apply Kd.R_drewN | apply Kd.R_drew)); exact Kd.R_mono HO256.out (fun _ hk => hk.2))); (case aS => exact (below_size (by repeat (first | (with_reducible first | exact HB.out | apply below_alloc | apply pw_below_drewN | apply below_drew1) | exact HB.out)))); (case aL => have := LMc21.out; omega); intro v258 w24 ho hb hg hat; rw [← Ny257.out] at ho; have n0_ := Aside0.mk (Kd.R_after (ok := (fun _ => True)) (by (with_reducible repeat (first | apply Kd.R_alloc | apply Kd.R_drewN | apply Kd.R_drew)); exact HO_4.out) hg hat); have n1_ := Aside0.mk (hb); have n2_ := Aside0.mk (ho); clear HO_4; clear HB; clear HO256; have HO_4 := n0_; have HB := n1_; have HO259 := n2_; clear n0_ n1_ n2_; clear ho hb hg hat))
                  go_ret2
                  exact ⟨_, by first | rfl | (simp [errW_none, errW_some] <;> rfl) | (simp [*, errW_none, errW_some] <;> rfl), by (with_reducible repeat (first | apply Kd.R_alloc | apply Kd.R_drewN | apply Kd.R_drew)); exact Kd.R_mono HO259.out (fun _ hk => trivial), by repeat (first | (with_reducible first | exact HB.out | apply below_alloc | apply pw_below_drewN | apply below_drew1) | exact HB.out)⟩
                · rw [if_neg c21] at H
                  exact absurd H (by simp)
              · replace c20 := Bool.eq_false_iff.mpr c20
                subst c20
                have H1 : (some (t239, none)) = some (r1, r2) := by rw [if_neg (show ¬ (false = true) by decide)] at H; exact H
                clear H
                have H := H1
                clear H1
                simp only [Option.some.injEq, Prod.mk.injEq] at H
                obtain ⟨rfl, rfl⟩ := H
                have p252 : 0 ≤ (5 : Int) := (by omega)
                have q252 : 5 < (t239.length : Int) := of_decide_eq_true (by first | (with_reducible assumption) | assumption)
                obtain ⟨ad252, e252, hx252_0⟩ := Kd.at_string (Kd.R_reads' HO_4.out).2.2 5 p252 q252
                cases e252
                (try simp only [show (5 : Int).toNat = 5 from rfl, Nat.reduceMul, Nat.reduceEqDiff, Go.Addr.add, ↓reduceIte] at hx252_0)
                have qi252 : (5 < t239.length) = True := eq_true (by omega)
                (try rw [show ((5 : Int)).toNat = 5 from rfl] at hx252_0)
                replace p252 := eq_true p252
                replace q252 := eq_true q252
                go_wp2_with (first | (go_at_call 52; (with_reducible refine (gronx_zzHasYear.calls kj2 (rdOf ByteArray.empty t239 5) false _ A19.out).mono ?_); rintro e w' ⟨rfl, ⟨nd, rfl⟩⟩))
                go_ret2
                exact ⟨_, by first | rfl | (simp [errW_none, errW_some] <;> rfl) | (simp [*, errW_none, errW_some] <;> rfl), by (with_reducible repeat (first | apply Kd.R_alloc | apply Kd.R_drewN | apply Kd.R_drew)); exact HO_4.out, by repeat (first | (with_reducible first | exact HB.out | apply below_alloc | apply pw_below_drewN | apply below_drew1) | exact HB.out)⟩
            · rw [if_neg c18] at H
              exact absurd H (by simp)
          · rw [if_neg c17] at H
            have c17b0 : ((t239.length : Int) == 6) = false := beq_eq_false_iff_ne.mpr c17
            have c17b1 : ((t239.length : Int) != 6) = true := bne_iff_ne.mpr c17
            simp only [Option.some.injEq, Prod.mk.injEq] at H
            obtain ⟨rfl, rfl⟩ := H
            go_wp2
            go_ret2
            exact ⟨_, by first | rfl | (simp [errW_none, errW_some] <;> rfl) | (simp [*, errW_none, errW_some] <;> rfl), by (with_reducible repeat (first | apply Kd.R_alloc | apply Kd.R_drewN | apply Kd.R_drew)); exact HO_4.out, by repeat (first | (with_reducible first | exact HB.out | apply below_alloc | apply pw_below_drewN | apply below_drew1) | exact HB.out)⟩
end Go.Proofs.YtkhgeonlohafgaaGreatDoor.Core
namespace Go.Proofs.YtkhgeonlohafgaaGreatDoor.Core
open Go.RowKit Go.Proofs.YtkhgeonlohafgaaGreatDoorW.PrintWords Go.Proofs.YtkhgeonlohafgaaGreatDoorW.PrintLast Go.Proofs.YtkhgeonlohafgaaGreatDoorW.PrintMore
attribute [local go_sem] max2_int min2_int max_two min_two max_three min_three max_four min_four   -- for this text's walks alone
set_option linter.unusedVariables false
set_option linter.unusedSimpArgs false
def impl_Parts.f (k : Nat) (a0 : ByteArray) : Option (List ByteArray × Bool) := (gronx_Segments.f k a0).bind fun bt260 => (if bt260.2.isNone = true then (some (bt260.1, true)) else (some (bt260.1, false)))
set_option maxHeartbeats 8000000 in
set_option maxRecDepth 100000 in
theorem impl_Parts.calls (k : Nat) (a0 : ByteArray) (r1 : List ByteArray) (r2 : Bool) (w : World) (h : impl_Parts.f k a0 = some (r1, r2)) :
    Calls Tryz.prog 23 #[.string a0] w fun e w' => ∃ v0_ : Value, e = .returned (.tuple #[v0_, .bool r2]) ∧ Kd.R Kd.string 9 w' w.heap.size (fun _ => True) v0_ r1 ∧ Below w.heap.size w w' := by
  have hu71 := Tryz.underlying71
  have HB := Aside0.mk (Below.refl w.heap.size w)
  have H : ((gronx_Segments.f k a0).bind fun bt260 => (if bt260.2.isNone = true then (some (bt260.1, true)) else (some (bt260.1, false)))) = some (r1, r2) := h
  clear h
  replace H := Option.bind_eq_some_iff.mp H
  obtain ⟨⟨t260, t261⟩, A20, H⟩ := H
  replace H : (if t261.isNone = true then (some (t260, true)) else (some (t260, false))) = some (r1, r2) := H
  have A2 := Aside0.mk A20
  clear A20
  rcases t261 with _ | q264
  · have H1 : (some (t260, true)) = some (r1, r2) := by rw [if_pos (show (none : Option Int).isNone = true by rfl)] at H; exact H
    clear H
    have H := H1
    clear H1
    try simp only [errW_none, errW_some]
    simp only [Option.some.injEq, Prod.mk.injEq] at H
    obtain ⟨rfl, rfl⟩ := H
    go_enter Tryz.func23, Tryz.ntmps23
    go_wp2_with (first | (go_at_call 36; (with_reducible refine (gronx_Segments.calls k a0 t260 none _ A2.out).mono ?_); rintro e w3 ⟨v262, rfl, ho0, hb⟩; have n0_ := Aside0.mk (Kd.R_lower ho0 (below_size (by repeat (first | (with_reducible first | exact HB.out | apply below_alloc | apply pw_below_drewN | apply below_drew1) | exact HB.out)))); have n1_ := Aside0.mk (below_step (by repeat (first | (with_reducible first | exact HB.out | apply below_alloc | apply pw_below_drewN | apply below_drew1) | exact HB.out)) hb); clear HB; have HO263 := n0_; have HB := n1_; clear n0_ n1_; (try clear hb); (try clear hb2); (try clear hk); (try clear hi); (try clear ho0); (try simp only [errW_none, errW_some])))
    repeat (go_quiet (first | (go_at_call 36; (with_reducible refine (gronx_Segments.calls k a0 t260 none _ A2.out).mono ?_); rintro e w3 ⟨v262, rfl, ho0, hb⟩; have n0_ := Aside0.mk (Kd.R_lower ho0 (below_size (by repeat (first | (with_reducible first | exact HB.out | apply below_alloc | apply pw_below_drewN | apply below_drew1) | exact HB.out)))); have n1_ := Aside0.mk (below_step (by repeat (first | (with_reducible first | exact HB.out | apply below_alloc | apply pw_below_drewN | apply below_drew1) | exact HB.out)) hb); clear HB; have HO263 := n0_; have HB := n1_; clear n0_ n1_; (try clear hb); (try clear hb2); (try clear hk); (try clear hi); (try clear ho0); (try simp only [errW_none, errW_some]))); try go_wp2_with (first | (go_at_call 36; (with_reducible refine (gronx_Segments.calls k a0 t260 none _ A2.out).mono ?_); rintro e w3 ⟨v262, rfl, ho0, hb⟩; have n0_ := Aside0.mk (Kd.R_lower ho0 (below_size (by repeat (first | (with_reducible first | exact HB.out | apply below_alloc | apply pw_below_drewN | apply below_drew1) | exact HB.out)))); have n1_ := Aside0.mk (below_step (by repeat (first | (with_reducible first | exact HB.out | apply below_alloc | apply pw_below_drewN | apply below_drew1) | exact HB.out)) hb); clear HB; have HO263 := n0_; have HB := n1_; clear n0_ n1_; (try clear hb); (try clear hb2); (try clear hk); (try clear hi); (try clear ho0); (try simp only [errW_none, errW_some]))))
    go_ret2
    exact ⟨_, by first | rfl | (simp [errW_none, errW_some] <;> rfl) | (simp [*, errW_none, errW_some] <;> rfl), by (with_reducible repeat (first | apply Kd.R_alloc | apply Kd.R_drewN | apply Kd.R_drew)); exact HO263.out, by repeat (first | (with_reducible first | exact HB.out | apply below_alloc | apply pw_below_drewN | apply below_drew1) | exact HB.out)⟩
  · have H1 : (some (t260, false)) = some (r1, r2) := by rw [if_neg (show ¬ (some q264).isNone = true by simp)] at H; exact H
    clear H
    have H := H1
    clear H1
    try simp only [errW_none, errW_some]
    simp only [Option.some.injEq, Prod.mk.injEq] at H
    obtain ⟨rfl, rfl⟩ := H
    go_enter Tryz.func23, Tryz.ntmps23
    go_wp2_with (first | (go_at_call 36; (with_reducible refine (gronx_Segments.calls k a0 t260 (some q264) _ A2.out).mono ?_); rintro e w4 ⟨v262, rfl, ho0, hb⟩; have n0_ := Aside0.mk (Kd.R_lower ho0 (below_size (by repeat (first | (with_reducible first | exact HB.out | apply below_alloc | apply pw_below_drewN | apply below_drew1) | exact HB.out)))); have n1_ := Aside0.mk (below_step (by repeat (first | (with_reducible first | exact HB.out | apply below_alloc | apply pw_below_drewN | apply below_drew1) | exact HB.out)) hb); clear HB; have HO263 := n0_; have HB := n1_; clear n0_ n1_; (try clear hb); (try clear hb2); (try clear hk); (try clear hi); (try clear ho0); (try simp only [errW_none, errW_some])))
    repeat (go_quiet (first | (go_at_call 36; (with_reducible refine (gronx_Segments.calls k a0 t260 (some q264) _ A2.out).mono ?_); rintro e w4 ⟨v262, rfl, ho0, hb⟩; have n0_ := Aside0.mk (Kd.R_lower ho0 (below_size (by repeat (first | (with_reducible first | exact HB.out | apply below_alloc | apply pw_below_drewN | apply below_drew1) | exact HB.out)))); have n1_ := Aside0.mk (below_step (by repeat (first | (with_reducible first | exact HB.out | apply below_alloc | apply pw_below_drewN | apply below_drew1) | exact HB.out)) hb); clear HB; have HO263 := n0_; have HB := n1_; clear n0_ n1_; (try clear hb); (try clear hb2); (try clear hk); (try clear hi); (try clear ho0); (try simp only [errW_none, errW_some]))); try go_wp2_with (first | (go_at_call 36; (with_reducible refine (gronx_Segments.calls k a0 t260 (some q264) _ A2.out).mono ?_); rintro e w4 ⟨v262, rfl, ho0, hb⟩; have n0_ := Aside0.mk (Kd.R_lower ho0 (below_size (by repeat (first | (with_reducible first | exact HB.out | apply below_alloc | apply pw_below_drewN | apply below_drew1) | exact HB.out)))); have n1_ := Aside0.mk (below_step (by repeat (first | (with_reducible first | exact HB.out | apply below_alloc | apply pw_below_drewN | apply below_drew1) | exact HB.out)) hb); clear HB; have HO263 := n0_; have HB := n1_; clear n0_ n1_; (try clear hb); (try clear hb2); (try clear hk); (try clear hi); (try clear ho0); (try simp only [errW_none, errW_some]))))
    go_ret2
    exact ⟨_, by first | rfl | (simp [errW_none, errW_some] <;> rfl) | (simp [*, errW_none, errW_some] <;> rfl), by (with_reducible repeat (first | apply Kd.R_alloc | apply Kd.R_drewN | apply Kd.R_drew)); exact HO263.out, by repeat (first | (with_reducible first | exact HB.out | apply below_alloc | apply pw_below_drewN | apply below_drew1) | exact HB.out)⟩
end Go.Proofs.YtkhgeonlohafgaaGreatDoor.Core
namespace Go.Proofs.YtkhgeonlohafgaaGreatDoor.Core
open Go.RowKit Go.Proofs.YtkhgeonlohafgaaGreatDoorW.PrintWords
def idxL (m : List UInt8) : List UInt8 → Nat → Int
  | [], _ => -1
  | b :: t, i => if m.length ≤ t.length + 1 then (if (b :: t).take m.length = m then (i : Int) else idxL m t (i + 1)) else -1
theorem zzIndex_from (l m : List UInt8) (hm : m ≠ []) (hl : l.length < 4611686018427387904) (hml : m.length < 4611686018427387904) :
    ∀ (rest : List UInt8) (i : Nat), l.drop i = rest → i ≤ l.length → Ev (fun k => gronx_zzIndex.l0 k (B l) (B m) (i : Int)) (idxL m rest i) := by
  have hm0 : 0 < m.length := List.length_pos_iff.2 hm
  intro rest
  induction rest with
  | nil =>
    intro i hi hil
    have hlen : l.length ≤ i := List.drop_eq_nil_iff.1 hi
    refine Ev.done fun k => ?_
    simp only [gronx_zzIndex.l0, B_size]
    rw [wrap64_id (by omega) (by omega), if_neg (by omega)]
    rfl
  | cons b t ih =>
    intro i hi hil
    have hlen : t.length + 1 = l.length - i := by have := congrArg List.length hi; simpa using this.symm
    unfold idxL
    by_cases h1 : m.length ≤ t.length + 1
    · rw [if_pos h1]
      have hcut : (B l).extract ((i : Int)).toNat (((i : Int) + (m.length : Int))).toNat = B ((b :: t).take m.length) := by
        rw [B_cut, show ((i : Int)).toNat = i by omega, hi, show (((i : Int) + (m.length : Int))).toNat - i = m.length by omega]
      by_cases h2 : (b :: t).take m.length = m
      · rw [if_pos h2]
        refine Ev.done fun k => ?_
        simp only [gronx_zzIndex.l0, B_size]
        rw [wrap64_id (by omega) (by omega), if_pos (by omega), if_pos (by omega), if_pos (by omega), hcut, B_list, B_list, if_pos h2]
      · rw [if_neg h2]
        refine Ev.step (f := fun k => gronx_zzIndex.l0 k (B l) (B m) ((i + 1 : Nat) : Int)) (fun k => ?_) (ih (i + 1) ?_ (by omega))
        · simp only [gronx_zzIndex.l0, B_size]
          rw [wrap64_id (by omega) (by omega), if_pos (by omega), if_pos (by omega), if_pos (by omega), hcut, B_list, B_list, if_neg h2, wrap64_nat i (by omega)]
        · rw [← List.drop_drop, hi]; rfl
    · rw [if_neg h1]
      refine Ev.done fun k => ?_
      simp only [gronx_zzIndex.l0, B_size]
      rw [wrap64_id (by omega) (by omega), if_neg (by omega)]
theorem zzIndex_ev (l m : List UInt8) (hm : m ≠ []) (hl : l.length < 4611686018427387904) (hml : m.length < 4611686018427387904) :
    Ev (fun k => gronx_zzIndex.f k (B l) (B m)) (idxL m l 0) := zzIndex_from l m hm hl hml l 0 rfl (Nat.zero_le _)
theorem idxL_one_none (c : UInt8) (l : List UInt8) (h : c ∉ l) (i : Nat) : idxL [c] l i = -1 := by
  induction l generalizing i with
  | nil => rfl
  | cons b t ih =>
    unfold idxL
    rw [if_pos (by simp), if_neg (by simp; intro e; exact h (by simp [e])), ih (fun e => h (by simp [e]))]
theorem idxL_one_at (c : UInt8) (p r : List UInt8) (h : c ∉ p) (i : Nat) : idxL [c] (p ++ c :: r) i = ((i + p.length : Nat) : Int) := by
  induction p generalizing i with
  | nil => simp [idxL]
  | cons b t ih =>
    rw [List.cons_append]
    unfold idxL
    rw [if_pos (by simp), if_neg (by simp; intro e; exact h (by simp [e])), ih (fun e => h (by simp [e]))]
    simp
    omega
def splitL (c : UInt8) : List UInt8 → List (List UInt8)
  | [] => [[]]
  | b :: t => if b = c then [] :: splitL c t else match splitL c t with | [] => [[b]] | h :: r => (b :: h) :: r
theorem splitL_none (c : UInt8) (l : List UInt8) (h : c ∉ l) : splitL c l = [l] := by
  induction l with
  | nil => rfl
  | cons b t ih => rw [splitL, if_neg (fun e => h (by simp [e])), ih (fun e => h (by simp [e]))]
theorem splitL_at (c : UInt8) (p r : List UInt8) (h : c ∉ p) : splitL c (p ++ c :: r) = p :: splitL c r := by
  induction p with
  | nil => simp [splitL]
  | cons b t ih => rw [List.cons_append, splitL, if_neg (fun e => h (by simp [e])), ih (fun e => h (by simp [e]))]
theorem mem_cut {c : UInt8} {l : List UInt8} (h : c ∈ l) : ∃ p r, l = p ++ c :: r ∧ c ∉ p := by
  induction l with
  | nil => cases h
  | cons b t ih =>
    by_cases e : b = c
    · exact ⟨[], t, by simp [e], by simp⟩
    · obtain ⟨p, r, rfl, hp⟩ := ih (by rcases List.mem_cons.1 h with h | h; exact absurd h.symm e; exact h)
      exact ⟨b :: p, r, rfl, by simp [hp, Ne.symm e]⟩
theorem zzSplit_from (c : UInt8) : ∀ (n : Nat) (l : List UInt8) (acc : List ByteArray), l.length ≤ n → l.length + acc.length < 8796093022208 →
    Ev (fun k => gronx_zzSplit.l0 k (B l) (B [c]) acc) (acc ++ (splitL c l).map B) := by
  intro n
  induction n with
  | zero =>
    intro l acc hn hb
    obtain rfl : l = [] := List.eq_nil_of_length_eq_zero (by omega)
    have hix := zzIndex_ev [] [c] (by simp) (by simp) (by simp)
    refine Ev.step (f := fun k => (gronx_zzIndex.f k (B []) (B [c])).bind fun t => if t < 0 then some (acc ++ [B []]) else none) (fun k => ?_) (Ev.bind hix (Ev.const (by simp [idxL, splitL])))
    simp only [gronx_zzSplit.l0]
    cases gronx_zzIndex.f k (B []) (B [c]) with
    | none => rfl
    | some t =>
      simp only [Option.bind_some]
      by_cases h : t < 0
      · rw [if_pos h, if_pos h, if_pos (by omega)]
      · rw [if_neg h, if_neg h, if_pos (by omega)]
        by_cases h2 : t ≤ ((B []).size : Int)
        · have h3 : t = 0 := by rw [B_size] at h2; simp at h2; omega
          subst h3
          rw [if_pos h2, if_pos (by omega), B_size, B_size, wrap64_id (by simp) (by simp), if_pos (by simp), if_neg (by simp)]
        · rw [if_neg h2]
  | succ n ih =>
    intro l acc hn hb
    by_cases hc : c ∈ l
    · obtain ⟨p, r, rfl, hp⟩ := mem_cut hc
      have hlen : (p ++ c :: r).length = p.length + 1 + r.length := by simp; omega
      have hix := zzIndex_ev (p ++ c :: r) [c] (by simp) (by omega) (by simp)
      rw [idxL_one_at c p r hp] at hix
      rw [splitL_at c p r hp]
      have hrec := ih r (acc ++ [B p]) (by omega) (by simp; omega)
      refine Ev.step (f := fun k => (gronx_zzIndex.f k (B (p ++ c :: r)) (B [c])).bind fun t => if t = ((0 + p.length : Nat) : Int) then gronx_zzSplit.l0 k (B r) (B [c]) (acc ++ [B p]) else gronx_zzSplit.l0 (k + 1) (B (p ++ c :: r)) (B [c]) acc) (fun k => ?_) (Ev.bind hix ?_)
      · cases hg : gronx_zzIndex.f k (B (p ++ c :: r)) (B [c]) with
        | none => simp only [gronx_zzSplit.l0, hg]; rfl
        | some t =>
          simp only [Option.bind_some]
          by_cases h : t = ((0 + p.length : Nat) : Int)
          · rw [if_pos h]
            subst h
            simp only [gronx_zzSplit.l0, hg, Option.bind_some, B_size]
            rw [if_neg (by omega), if_pos (by omega), if_pos (by rw [hlen]; omega), if_pos (by omega), wrap64_id (by simp; omega) (by simp; omega), if_pos (by simp; omega), if_pos (by rw [hlen]; simp; omega)]
            congr 1
            · rw [B_cut]
              congr 1
              simp only [Nat.zero_add, List.length_singleton]
              rw [show ((p.length : Int) + ((1 : Nat) : Int)).toNat = p.length + 1 by omega, List.drop_append, List.drop_eq_nil_of_le (by omega), show p.length + 1 - p.length = 1 by omega]
              simp only [List.nil_append, List.drop_succ_cons, List.drop_zero]
              exact List.take_of_length_le (by omega)
            · rw [B_cut]
              congr 3
              simp
          · rw [if_neg h]
      · refine Ev.congr (f := fun k => gronx_zzSplit.l0 k (B r) (B [c]) (acc ++ [B p])) (fun k => by rw [if_pos rfl]) ?_
        simpa using hrec
    · have hix := zzIndex_ev l [c] (by simp) (by omega) (by simp)
      rw [idxL_one_none c l hc] at hix
      rw [splitL_none c l hc]
      refine Ev.step (f := fun k => (gronx_zzIndex.f k (B l) (B [c])).bind fun t => if t < 0 then some (acc ++ [B l]) else gronx_zzSplit.l0 (k + 1) (B l) (B [c]) acc) (fun k => ?_) (Ev.bind hix (Ev.const (by simp)))
      cases hg : gronx_zzIndex.f k (B l) (B [c]) with
      | none => simp only [gronx_zzSplit.l0, hg]; rfl
      | some t =>
        simp only [Option.bind_some]
        by_cases h : t < 0
        · rw [if_pos h]; simp only [gronx_zzSplit.l0, hg, Option.bind_some]; rw [if_pos h, if_pos (by omega)]
        · rw [if_neg h]
theorem zzSplit_ev (c : UInt8) (l : List UInt8) (h : l.length < 8796093022208) : Ev (fun k => gronx_zzSplit.f k (B l) (B [c])) ((splitL c l).map B) := by
  have := zzSplit_from c l.length l [] (Nat.le_refl _) (by simpa using h)
  rw [List.nil_append] at this
  exact this
theorem zzReplace_no (l m q : List UInt8) (hm : m ≠ []) (hml : m.length < 4611686018427387904) (h : idxL m l 0 = -1) (hl : l.length < 140737488355328) :
    Ev (fun k => gronx_zzReplaceAll.f k (B l) (B m) (B q)) (B l) := by
  have hix := zzIndex_ev l m hm (by omega) hml
  rw [h] at hix
  unfold gronx_zzReplaceAll.f
  refine Ev.step (f := fun k => (gronx_zzIndex.f k (B l) (B m)).bind fun t => if t < 0 then some (B l) else gronx_zzReplaceAll.l0 (k + 1) (B l) (B m) (B q) []) (fun k => ?_) (Ev.bind hix (Ev.const (by simp)))
  cases hg : gronx_zzIndex.f k (B l) (B m) with
  | none => simp only [gronx_zzReplaceAll.l0, hg]; rfl
  | some t =>
    simp only [Option.bind_some]
    by_cases h : t < 0
    · rw [if_pos h]; simp only [gronx_zzReplaceAll.l0, hg, Option.bind_some]; rw [if_pos h, if_pos (by simp [B_size]; omega), List.nil_append, B_bytesOf, strOfNums_B]
    · rw [if_neg h]
theorem zzTrim_ev (l : List UInt8) (hl : l.length < 4611686018427387904) (hne : l ≠ []) (h0 : ∀ b, l.head? = some b → b ≠ 32 ∧ b ≠ 9) (h1 : ∀ b, l.getLast? = some b → b ≠ 32 ∧ b ≠ 9) :
    Ev (fun k => gronx_zzTrim.f k (B l)) (B l) := by
  have hpos : 0 < l.length := List.length_pos_iff.2 hne
  have hU : ∀ b : UInt8, b ≠ 32 → ¬ (b.toNat : Int) = 32 := fun b hb e => hb (UInt8.toNat_inj.1 (show b.toNat = 32 by omega))
  have hV : ∀ b : UInt8, b ≠ 9 → ¬ (b.toNat : Int) = 9 := fun b hb e => hb (UInt8.toNat_inj.1 (show b.toNat = 9 by omega))
  have e0 : bt (B l) 0 = ((l[0]'hpos).toNat : Int) := bt_B_at l 0 hpos
  have e1 : bt (B l) ((l.length : Int) - 1) = ((l[l.length - 1]'(by omega)).toNat : Int) := by
    have := bt_B_at l (l.length - 1) (by omega)
    rwa [show ((l.length - 1 : Nat) : Int) = (l.length : Int) - 1 by omega] at this
  have a0 := h0 (l[0]'hpos) (by rw [List.head?_eq_getElem?, List.getElem?_eq_getElem hpos])
  have a1 := h1 (l[l.length - 1]'(by omega)) (by rw [List.getLast?_eq_getElem?, List.getElem?_eq_getElem (by omega)])
  unfold gronx_zzTrim.f
  refine Ev.step (f := fun k => gronx_zzTrim.j1 k (B l)) (fun k => ?_) (Ev.step (f := fun k => gronx_zzTrim.l1 k (B l)) (fun k => by simp only [gronx_zzTrim.j1]) (Ev.done fun k => ?_))
  · simp only [gronx_zzTrim.l0, B_size]
    rw [if_pos (by omega), if_pos (by omega), e0, if_neg (hU _ a0.1), if_neg (hV _ a0.2)]
  · simp only [gronx_zzTrim.l1, B_size]
    rw [if_pos (by omega), wrap64_id (by omega) (by omega), if_pos (by omega), if_pos (by omega), e1, if_neg (hU _ a1.1), if_neg (hV _ a1.2)]
def noDbl : List UInt8 → Bool
  | a :: b :: t => !(a == 32 && b == 32) && noDbl (b :: t)
  | _ => true
theorem noDbl_idx (l : List UInt8) (h : noDbl l = true) (i : Nat) : idxL [32, 32] l i = -1 := by
  induction l generalizing i with
  | nil => rfl
  | cons a t ih =>
    unfold idxL
    cases t with
    | nil => rw [if_neg (by simp)]
    | cons b t =>
      simp only [noDbl, Bool.and_eq_true, Bool.not_eq_true', Bool.and_eq_false_iff] at h
      rw [if_pos (by simp), if_neg ?_, ih h.2]
      intro e
      simp at e
      rcases h.1 with h1 | h1
      · simp [e.1] at h1
      · simp [e.2] at h1
def plainB (b : UInt8) : Bool := b == 32 || (decide (33 ≤ b.toNat) && decide (b.toNat ≤ 63))
theorem noDbl_at (l : List UInt8) (h : noDbl l = true) (i : Nat) (h1 : i + 1 < l.length) (e : l[i]'(by omega) = 32) : l[i + 1] ≠ 32 := by
  induction l generalizing i with
  | nil => simp at h1
  | cons a t ih =>
    cases t with
    | nil => simp at h1
    | cons b t =>
      simp only [noDbl, Bool.and_eq_true, Bool.not_eq_true', Bool.and_eq_false_iff] at h
      cases i with
      | zero =>
        simp at e
        subst e
        intro e2
        simp at e2
        subst e2
        simp at h
      | succ i => exact ih h.2 i (by simpa using h1) (by simpa using e)
theorem zzSpaces_from (l : List UInt8) (hl : l.length < 140737488355328) (hd : noDbl l = true) (hp : ∀ b ∈ l, plainB b = true) :
    ∀ (d i : Nat), l.length - i = d → i ≤ l.length → ∀ (inn : Bool), (inn = true → ∃ h : 0 < i ∧ i ≤ l.length, l[i - 1]'(by omega) = 32) →
      Ev (fun k => gronx_zzSpaces.l0 k (B l) ((l.take i).map fun b => (b.toNat : Int)) inn (i : Int)) (B l) := by
  intro d
  induction d with
  | zero =>
    intro i hd' hi inn hin
    refine Ev.done fun k => ?_
    simp only [gronx_zzSpaces.l0, B_size]
    rw [if_neg (by omega), strOfNums_B, List.take_of_length_le (by omega)]
  | succ d ih =>
    intro i hd' hi inn hin
    have hlt : i < l.length := by omega
    have hb := hp _ (List.getElem_mem hlt)
    have hbt := bt_B_at l i hlt
    have htake : (l.take (i + 1)).map (fun b => (b.toNat : Int)) = (l.take i).map (fun b => (b.toNat : Int)) ++ [(l[i].toNat : Int)] := by
      rw [List.take_succ_eq_append_getElem hlt, List.map_append]; rfl
    by_cases hs : l[i] = 32
    · have hin0 : inn = false := by
        cases inn with
        | false => rfl
        | true =>
          obtain ⟨hh, e⟩ := hin rfl
          have := noDbl_at l hd (i - 1) (by omega) e
          simp only [show i - 1 + 1 = i by omega] at this
          exact absurd hs this
      subst hin0
      refine Ev.step (f := fun k => gronx_zzSpaces.j1 k (B l) ((l.take i).map fun b => (b.toNat : Int)) false (i : Int) true) (fun k => ?_) ?_
      · simp only [gronx_zzSpaces.l0, B_size]
        rw [if_pos (by omega), if_pos (by omega), hbt, hs, if_pos (by rfl)]
        rfl
      · refine Ev.step (f := fun k => gronx_zzSpaces.l0 k (B l) ((l.take (i + 1)).map fun b => (b.toNat : Int)) true ((i + 1 : Nat) : Int)) (fun k => ?_) (ih (i + 1) (by omega) (by omega) true (fun _ => ⟨⟨by omega, by omega⟩, by simpa using hs⟩))
        simp only [gronx_zzSpaces.j1]
        rw [if_pos trivial, if_neg (by simp), if_pos (by simp; omega), wrap64_nat i (by omega), htake, hs]
        rfl
    · have hge : 33 ≤ l[i].toNat ∧ l[i].toNat ≤ 63 := by
        simp only [plainB, Bool.or_eq_true, beq_iff_eq, Bool.and_eq_true, decide_eq_true_eq] at hb
        rcases hb with hb | hb
        · exact absurd hb hs
        · exact hb
      refine Ev.step (f := fun k => gronx_zzSpaces.j1 k (B l) ((l.take i).map fun b => (b.toNat : Int)) inn (i : Int) false) (fun k => ?_) ?_
      · simp only [gronx_zzSpaces.l0, B_size]
        rw [if_pos (by omega), if_pos (by omega), hbt, if_neg (by omega), if_neg (by omega), if_neg (by omega), if_neg (by omega), show ((l[i].toNat : Int) == 13) = false by simp; omega]
      · refine Ev.step (f := fun k => gronx_zzSpaces.l0 k (B l) ((l.take (i + 1)).map fun b => (b.toNat : Int)) false ((i + 1 : Nat) : Int)) (fun k => ?_) (ih (i + 1) (by omega) (by omega) false (by simp))
        simp only [gronx_zzSpaces.j1, B_size]
        rw [if_neg (by simp), if_pos (by omega), if_pos (by omega), if_pos (by simp; omega), wrap64_nat i (by omega), htake, hbt]
theorem zzSpaces_ev (l : List UInt8) (hl : l.length < 140737488355328) (hd : noDbl l = true) (hp : ∀ b ∈ l, plainB b = true) : Ev (fun k => gronx_zzSpaces.f k (B l)) (B l) := by
  have := zzSpaces_from l hl hd hp l.length 0 (by simp) (by omega) false (by simp)
  simpa [gronx_zzSpaces.f] using this
theorem literal_no (l : List UInt8) (h : ∀ b ∈ l, b.toNat ≤ 63) : gronx_literal.f (B l) = some (B []) := by
  have hne : ∀ (c d e : UInt8), 65 ≤ c.toNat → ¬ l = [c, d, e] := by
    intro c d e hc heq
    have := h c (by simp [heq])
    omega
  unfold gronx_literal.f
  simp only [B_list]
  repeat rw [if_neg (hne _ _ _ (by decide))]
  rfl
theorem zzLiterals_from (l : List UInt8) (hl : l.length < 140737488355328) (hp : ∀ b ∈ l, b.toNat ≤ 63) :
    ∀ (d i : Nat), l.length - i = d → i ≤ l.length → Ev (fun k => gronx_zzLiterals.l0 k (B l) ((l.take i).map fun b => (b.toNat : Int)) (i : Int)) (B l) := by
  intro d
  induction d with
  | zero =>
    intro i hd' hi
    refine Ev.done fun k => ?_
    simp only [gronx_zzLiterals.l0, B_size]
    rw [if_neg (by omega), strOfNums_B, List.take_of_length_le (by omega)]
  | succ d ih =>
    intro i hd' hi
    have hlt : i < l.length := by omega
    have hbt := bt_B_at l i hlt
    have htake : (l.take (i + 1)).map (fun b => (b.toNat : Int)) = (l.take i).map (fun b => (b.toNat : Int)) ++ [(l[i].toNat : Int)] := by
      rw [List.take_succ_eq_append_getElem hlt, List.map_append]; rfl
    refine Ev.step (f := fun k => gronx_zzLiterals.l0 k (B l) ((l.take (i + 1)).map fun b => (b.toNat : Int)) ((i + 1 : Nat) : Int)) (fun k => ?_) (ih (i + 1) (by omega) (by omega))
    simp only [gronx_zzLiterals.l0, B_size]
    rw [if_pos (by omega), wrap64_id (i := (i : Int) + 3) (by omega) (by omega)]
    by_cases h3 : i + 3 ≤ l.length
    · rw [if_pos (by omega), if_pos (by omega), if_pos (by omega), B_cut, literal_no _ (fun b hb => hp b (List.mem_of_mem_drop (List.mem_of_mem_take hb)))]
      simp only [Option.bind_some]
      rw [B_list, if_pos rfl, if_pos (by simp; omega), wrap64_nat i (by omega), htake, hbt]
    · rw [if_neg (by omega), if_pos (by omega), if_pos (by simp; omega), wrap64_nat i (by omega), htake, hbt]
theorem zzLiterals_ev (l : List UInt8) (hl : l.length < 140737488355328) (hp : ∀ b ∈ l, b.toNat ≤ 63) : Ev (fun k => gronx_zzLiterals.f k (B l)) (B l) := by
  have := zzLiterals_from l hl hp l.length 0 (by simp) (by omega)
  simpa [gronx_zzLiterals.f] using this
def hasYr : List UInt8 → Nat → Bool
  | [], _ => false
  | b :: t, n => if b.toNat < 48 ∨ 57 < b.toNat then hasYr t 0 else if n + 1 = 4 then true else hasYr t (n + 1)
theorem zzHasYear_from (l : List UInt8) (hl : l.length < 4611686018427387904) :
    ∀ (rest : List UInt8) (i n : Nat), l.drop i = rest → i ≤ l.length → n < 4 → Ev (fun k => gronx_zzHasYear.l0 k (B l) (n : Int) (i : Int)) (hasYr rest n) := by
  intro rest
  induction rest with
  | nil =>
    intro i n hi hil hn
    have hlen : l.length ≤ i := List.drop_eq_nil_iff.1 hi
    refine Ev.done fun k => ?_
    simp only [gronx_zzHasYear.l0, B_size]
    rw [if_neg (by omega)]
    rfl
  | cons b t ih =>
    intro i n hi hil hn
    have hlt : i < l.length := by
      rcases Nat.lt_or_ge i l.length with h | h
      · exact h
      · rw [List.drop_eq_nil_of_le h] at hi; cases hi
    have hbi : l[i] = b := by
      have := List.drop_eq_getElem_cons hlt
      rw [hi] at this
      exact (List.cons.inj this).1.symm
    have ht : l.drop (i + 1) = t := by rw [← List.drop_drop, hi]; rfl
    have hbt := bt_B_at l i hlt
    rw [hbi] at hbt
    unfold hasYr
    by_cases h1 : b.toNat < 48 ∨ 57 < b.toNat
    · rw [if_pos h1]
      refine Ev.step (f := fun k => gronx_zzHasYear.j1 k (B l) (n : Int) (i : Int) true) (fun k => ?_) (Ev.step (f := fun k => gronx_zzHasYear.l0 k (B l) ((0 : Nat) : Int) ((i + 1 : Nat) : Int)) (fun k => ?_) (ih (i + 1) 0 ht (by omega) (by omega)))
      · simp only [gronx_zzHasYear.l0, B_size]
        rw [if_pos (by omega), if_pos (by omega), hbt]
        by_cases h2 : (b.toNat : Int) < 48
        · rw [if_pos h2]
        · rw [if_neg h2, show decide ((b.toNat : Int) > 57) = true from decide_eq_true (by omega)]
      · simp only [gronx_zzHasYear.j1]
        rw [if_pos trivial, wrap64_nat i (by omega)]
        rfl
    · rw [if_neg h1]
      by_cases h2 : n + 1 = 4
      · rw [if_pos h2]
        refine Ev.step (f := fun k => gronx_zzHasYear.j1 k (B l) (n : Int) (i : Int) false) (fun k => ?_) (Ev.done fun k => ?_)
        · simp only [gronx_zzHasYear.l0, B_size]
          rw [if_pos (by omega), if_pos (by omega), hbt, if_neg (by omega), show decide ((b.toNat : Int) > 57) = false from decide_eq_false (by omega)]
        · simp only [gronx_zzHasYear.j1]
          rw [if_neg (by simp), wrap64_nat n (by omega), if_pos (by omega)]
      · rw [if_neg h2]
        refine Ev.step (f := fun k => gronx_zzHasYear.j1 k (B l) (n : Int) (i : Int) false) (fun k => ?_) (Ev.step (f := fun k => gronx_zzHasYear.l0 k (B l) ((n + 1 : Nat) : Int) ((i + 1 : Nat) : Int)) (fun k => ?_) (ih (i + 1) (n + 1) ht (by omega) (by omega)))
        · simp only [gronx_zzHasYear.l0, B_size]
          rw [if_pos (by omega), if_pos (by omega), hbt, if_neg (by omega), show decide ((b.toNat : Int) > 57) = false from decide_eq_false (by omega)]
        · simp only [gronx_zzHasYear.j1]
          rw [if_neg (by simp), wrap64_nat n (by omega), if_neg (by omega), wrap64_nat i (by omega)]
theorem zzHasYear_ev (l : List UInt8) (hl : l.length < 4611686018427387904) : Ev (fun k => gronx_zzHasYear.f k (B l)) (hasYr l 0) := by
  have := zzHasYear_from l hl l 0 0 rfl (Nat.zero_le _) (by omega)
  simpa [gronx_zzHasYear.f] using this
theorem toLower_plain (l : List UInt8) (hl : l.length ≤ 140737488355328) (hp : ∀ b ∈ l, b.toNat ≤ 63) : strings_ToLower.f (B l) = some (B l) := by
  unfold strings_ToLower.f
  rw [B_size, if_pos hl, if_pos (by unfold isAscii; rw [B_data, List.all_eq_true]; intro b hb; exact decide_eq_true (by have := hp b hb; omega))]
  rw [B_data]
  have : Lib.toLowerA l = l := by
    unfold Lib.toLowerA
    conv => rhs; rw [← List.map_id l]
    apply List.map_congr_left
    intro b hb
    have h := hp b hb
    have hu : Lib.isUpperB b = false := by
      unfold Lib.isUpperB
      rw [Bool.and_eq_false_iff]
      exact Or.inl (decide_eq_false (by rw [UInt8.le_iff_toNat_le]; show ¬ 65 ≤ b.toNat; omega))
    simp [Lib.lowerB, hu]
  rw [this]
  rfl
theorem toUpper_plain (l : List UInt8) (hl : l.length ≤ 140737488355328) (hp : ∀ b ∈ l, b.toNat ≤ 63) : strings_ToUpper.f (B l) = some (B l) := by
  unfold strings_ToUpper.f
  rw [B_size, if_pos hl, if_pos (by unfold isAscii; rw [B_data, List.all_eq_true]; intro b hb; exact decide_eq_true (by have := hp b hb; omega))]
  rw [B_data]
  have : Lib.toUpperA l = l := by
    unfold Lib.toUpperA
    conv => rhs; rw [← List.map_id l]
    apply List.map_congr_left
    intro b hb
    have h := hp b hb
    have hu : Lib.isLowerB b = false := by
      unfold Lib.isLowerB
      rw [Bool.and_eq_false_iff]
      exact Or.inl (decide_eq_false (by rw [UInt8.le_iff_toNat_le]; show ¬ 97 ≤ b.toNat; omega))
    simp [Lib.upperB, hu]
  rw [this]
  rfl
theorem expression_no (l : List UInt8) (hp : ∀ b ∈ l, b.toNat ≤ 63) : gronx_expression.f (B l) = some (B [], false) := by
  have hne : ∀ (m : List UInt8), ¬ l = 64 :: m := by
    intro m e
    have := hp 64 (by simp [e])
    simp at this
  unfold gronx_expression.f
  simp only [B_list]
  repeat rw [if_neg (hne _)]
  rfl
end Go.Proofs.YtkhgeonlohafgaaGreatDoor.Core
namespace Go.Proofs.YtkhgeonlohafgaaGreatDoor.Core
open Go.RowKit Go.Proofs.YtkhgeonlohafgaaGreatDoorW.PrintWords Go.Proofs.YtkhgeonlohafgaaGreatDoorW.PrintLast Go.Proofs.YtkhgeonlohafgaaGreatDoorW.PrintMore
attribute [local go_sem] max2_int min2_int max_two min_two max_three min_three max_four min_four   -- for this text's walks alone
set_option linter.unusedVariables false
set_option linter.unusedSimpArgs false
end Go.Proofs.YtkhgeonlohafgaaGreatDoor.Core
namespace Go.Proofs.YtkhgeonlohafgaaGreatDoor.Core
open Go.RowKit Go.Proofs.YtkhgeonlohafgaaGreatDoorW.PrintWords Go.Proofs.YtkhgeonlohafgaaGreatDoorW.PrintLast Go.Proofs.YtkhgeonlohafgaaGreatDoorW.PrintMore
attribute [local go_sem] max2_int min2_int max_two min_two max_three min_three max_four min_four   -- for this text's walks alone
set_option linter.unusedVariables false
set_option linter.unusedSimpArgs false
end Go.Proofs.YtkhgeonlohafgaaGreatDoor.Core
namespace Go.Proofs.YtkhgeonlohafgaaGreatDoor.Core
open Go.RowKit Go.Proofs.YtkhgeonlohafgaaGreatDoorW.PrintWords Go.Proofs.YtkhgeonlohafgaaGreatDoorW.PrintLast Go.Proofs.YtkhgeonlohafgaaGreatDoorW.PrintMore
attribute [local go_sem] max2_int min2_int max_two min_two max_three min_three max_four min_four   -- for this text's walks alone
set_option linter.unusedVariables false
set_option linter.unusedSimpArgs false
end Go.Proofs.YtkhgeonlohafgaaGreatDoor.Core
namespace Go.Proofs.YtkhgeonlohafgaaGreatDoor.Core
open Go.RowKit Go.Proofs.YtkhgeonlohafgaaGreatDoorW.PrintWords Go.Proofs.YtkhgeonlohafgaaGreatDoorW.PrintLast Go.Proofs.YtkhgeonlohafgaaGreatDoorW.PrintMore
attribute [local go_sem] max2_int min2_int max_two min_two max_three min_three max_four min_four   -- for this text's walks alone
set_option linter.unusedVariables false
set_option linter.unusedSimpArgs false
end Go.Proofs.YtkhgeonlohafgaaGreatDoor.Core
namespace Go.Proofs.YtkhgeonlohafgaaGreatDoor.Core
open Go.RowKit Go.Proofs.YtkhgeonlohafgaaGreatDoorW.PrintWords Go.Proofs.YtkhgeonlohafgaaGreatDoorW.PrintLast Go.Proofs.YtkhgeonlohafgaaGreatDoorW.PrintMore
attribute [local go_sem] max2_int min2_int max_two min_two max_three min_three max_four min_four   -- for this text's walks alone
set_option linter.unusedVariables false
set_option linter.unusedSimpArgs false
end Go.Proofs.YtkhgeonlohafgaaGreatDoor.Core
namespace Go.Proofs.YtkhgeonlohafgaaGreatDoor.Core
open Go.RowKit Go.Proofs.YtkhgeonlohafgaaGreatDoorW.PrintWords Go.Proofs.YtkhgeonlohafgaaGreatDoorW.PrintLast Go.Proofs.YtkhgeonlohafgaaGreatDoorW.PrintMore
attribute [local go_sem] max2_int min2_int max_two min_two max_three min_three max_four min_four   -- for this text's walks alone
set_option linter.unusedVariables false
set_option linter.unusedSimpArgs false
end Go.Proofs.YtkhgeonlohafgaaGreatDoor.Core
namespace Go.Proofs.YtkhgeonlohafgaaGreatDoor.Core
open Go.RowKit Go.Proofs.YtkhgeonlohafgaaGreatDoorW.PrintWords Go.Proofs.YtkhgeonlohafgaaGreatDoorW.PrintLast Go.Proofs.YtkhgeonlohafgaaGreatDoorW.PrintMore
attribute [local go_sem] max2_int min2_int max_two min_two max_three min_three max_four min_four   -- for this text's walks alone
set_option linter.unusedVariables false
set_option linter.unusedSimpArgs false
end Go.Proofs.YtkhgeonlohafgaaGreatDoor.Core
namespace Go.Proofs.YtkhgeonlohafgaaGreatDoor.Core
open Go.RowKit Go.Proofs.YtkhgeonlohafgaaGreatDoorW.PrintWords
abbrev It := S57
section
variable (f0 f1 f2 f3 f4 f5 : List It) (secs : Bool)
end
end Go.Proofs.YtkhgeonlohafgaaGreatDoor.Core
namespace Go.Proofs.YtkhgeonlohafgaaGreatDoor.Core
open Go.RowKit Go.Proofs.YtkhgeonlohafgaaGreatDoorW.PrintWords
def joinL (c : UInt8) : List (List UInt8) → List UInt8
  | [] => []
  | [x] => x
  | x :: y :: t => x ++ c :: joinL c (y :: t)
theorem joinL_snoc (c : UInt8) (l : List (List UInt8)) (x : List UInt8) (h : l ≠ []) : joinL c (l ++ [x]) = joinL c l ++ c :: x := by
  induction l with
  | nil => exact absurd rfl h
  | cons a t ih =>
    cases t with
    | nil => rfl
    | cons b t =>
      rw [List.cons_append, List.cons_append, joinL, ← List.cons_append, ih (by simp), joinL]
      simp
theorem joinL_length (c : UInt8) (l : List (List UInt8)) (m : Nat) (h : ∀ x ∈ l, x.length ≤ m) : (joinL c l).length ≤ l.length * (m + 1) := by
  induction l with
  | nil => simp [joinL]
  | cons a t ih =>
    have ha := h a (by simp)
    cases t with
    | nil => simp [joinL]; omega
    | cons b t =>
      have := ih (fun x hx => h x (by simp [hx]))
      rw [joinL, List.length_append, List.length_cons, List.length_cons, Nat.succ_mul]
      omega
theorem joinL_ne (c : UInt8) (l : List (List UInt8)) (h : l ≠ []) (hx : ∀ x ∈ l, x ≠ []) : joinL c l ≠ [] := by
  match l with
  | [] => exact absurd rfl h
  | [x] => exact hx x (by simp)
  | x :: y :: t => rw [joinL]; simp
end Go.Proofs.YtkhgeonlohafgaaGreatDoor.Core
namespace Go.Proofs.YtkhgeonlohafgaaGreatDoor.Core
open Go.RowKit Go.Proofs.YtkhgeonlohafgaaGreatDoorW.PrintWords
def PartOk (p : List UInt8) : Prop := p ≠ [] ∧ ∀ b ∈ p, 33 ≤ b.toNat ∧ b.toNat ≤ 63
theorem joinL_mem {c : UInt8} {P : List (List UInt8)} {b : UInt8} (h : b ∈ joinL c P) : b = c ∨ ∃ p ∈ P, b ∈ p := by
  induction P with
  | nil => cases h
  | cons x t ih =>
    cases t with
    | nil => exact Or.inr ⟨x, by simp, h⟩
    | cons y t =>
      rw [joinL] at h
      rcases List.mem_append.1 h with h | h
      · exact Or.inr ⟨x, by simp, h⟩
      · rcases List.mem_cons.1 h with h | h
        · exact Or.inl h
        · rcases ih h with h | ⟨p, hp, h⟩
          · exact Or.inl h
          · exact Or.inr ⟨p, by simp [hp], h⟩
theorem splitL_join (c : UInt8) (P : List (List UInt8)) (h : P ≠ []) (hc : ∀ p ∈ P, c ∉ p) : splitL c (joinL c P) = P := by
  induction P with
  | nil => exact absurd rfl h
  | cons x t ih =>
    cases t with
    | nil => exact splitL_none c x (hc x (by simp))
    | cons y t => rw [joinL, splitL_at c x _ (hc x (by simp)), ih (by simp) (fun p hp => hc p (by simp [hp]))]
theorem noDbl_part (p r : List UInt8) (hp : ∀ b ∈ p, b ≠ 32) (hr : noDbl r = true) : noDbl (p ++ r) = true := by
  induction p with
  | nil => exact hr
  | cons a t ih =>
    have ha : (a == 32) = false := by simpa using hp a (by simp)
    have := ih (fun b hb => hp b (by simp [hb]))
    rw [List.cons_append]
    match h : t ++ r with
    | [] => rfl
    | b :: s => rw [h] at this; simp [noDbl, ha, this]
theorem noDbl_join (P : List (List UInt8)) (hP : ∀ p ∈ P, PartOk p) : noDbl (joinL 32 P) = true := by
  have h32 : ∀ p ∈ P, ∀ b ∈ p, b ≠ 32 := by
    intro p hp b hb e
    have := (hP p hp).2 b hb
    rw [e] at this
    simp at this
  induction P with
  | nil => rfl
  | cons x t ih =>
    cases t with
    | nil => have := noDbl_part x [] (h32 x (by simp)) rfl; simpa [joinL] using this
    | cons y t =>
      rw [joinL]
      refine noDbl_part x _ (h32 x (by simp)) ?_
      have hrec := ih (fun p hp => hP p (by simp [hp])) (fun p hp => h32 p (by simp [hp]))
      match h : joinL 32 (y :: t) with
      | [] => rfl
      | b :: s =>
        rw [h] at hrec
        have hb : b ≠ 32 := by
          have hy := hP y (by simp)
          match hyy : y with
          | [] => exact absurd rfl hy.1
          | z :: zs =>
            have : b = z := by
              cases t with
              | nil => rw [joinL] at h; exact (List.cons.inj h).1.symm
              | cons w t => rw [joinL, List.cons_append] at h; exact (List.cons.inj h).1.symm
            rw [this]
            exact h32 (z :: zs) (by simp) z (by simp)
        simp [noDbl, hb, hrec]
theorem getLast_join (c : UInt8) (P : List (List UInt8)) (hne : P ≠ []) (hP : ∀ p ∈ P, p ≠ []) (b : UInt8) (h : (joinL c P).getLast? = some b) : ∃ p ∈ P, b ∈ p := by
  induction P with
  | nil => exact absurd rfl hne
  | cons x t ih =>
    cases t with
    | nil => exact ⟨x, by simp, List.mem_of_getLast? h⟩
    | cons y t =>
      have hy : joinL c (y :: t) ≠ [] := joinL_ne c _ (by simp) (fun p hp => hP p (by simp [hp]))
      rw [joinL, List.getLast?_append, List.getLast?_cons_of_ne_nil hy] at h
      match hl : (joinL c (y :: t)).getLast? with
      | none => exact absurd (List.getLast?_eq_none_iff.1 hl) hy
      | some z =>
        rw [hl, Option.some_or] at h
        obtain ⟨p, hp, hb⟩ := ih (by simp) (fun p hp => hP p (by simp [hp])) (by rw [hl]; exact h)
        exact ⟨p, by simp [hp], hb⟩
theorem head_join (c : UInt8) (P : List (List UInt8)) (hne : P ≠ []) (hP : ∀ p ∈ P, p ≠ []) (b : UInt8) (h : (joinL c P).head? = some b) : ∃ p ∈ P, b ∈ p := by
  match P, hne with
  | [x], _ => exact ⟨x, by simp, List.mem_of_mem_head? h⟩
  | x :: y :: t, _ =>
    match hx : x with
    | [] => exact absurd rfl (hP [] (by simp))
    | z :: zs =>
      rw [joinL, List.cons_append, List.head?_cons] at h
      exact ⟨z :: zs, by simp, by rw [← Option.some.inj h]; simp⟩
theorem normalize_ev (P : List (List UInt8)) (hne : P ≠ []) (hP : ∀ p ∈ P, PartOk p) (hl : (joinL 32 P).length < 8796093022208) : Ev (fun k => gronx_normalize.f k (B (joinL 32 P))) (P.map B) := by
  have hpl : ∀ b ∈ joinL 32 P, plainB b = true := by
    intro b hb
    rcases joinL_mem hb with h | ⟨p, hp, h⟩
    · subst h; rfl
    · have := (hP p hp).2 b h
      unfold plainB
      rw [decide_eq_true this.1, decide_eq_true this.2]
      simp
  have h63 : ∀ b ∈ joinL 32 P, b.toNat ≤ 63 := by
    intro b hb
    rcases joinL_mem hb with h | ⟨p, hp, h⟩
    · subst h; decide
    · exact ((hP p hp).2 b h).2
  have hends : ∀ b, (∃ p ∈ P, b ∈ p) → b ≠ 32 ∧ b ≠ 9 := by
    rintro b ⟨p, hp, h⟩
    have := (hP p hp).2 b h
    constructor <;> (intro e; subst e; simp at this)
  have hd := noDbl_join P hP
  have hjn : joinL 32 P ≠ [] := joinL_ne _ _ hne (fun p hp => (hP p hp).1)
  unfold gronx_normalize.f
  refine Ev.bind (f := fun k t174 => ((strings_ToLower.f t174).bind fun t175 => ((gronx_expression.f t175).bind fun bt176 => (if bt176.2 = true then (gronx_normalize.j0 k bt176.1) else (gronx_normalize.j0 k t174))))) (zzTrim_ev _ (by omega) hjn (fun b hb => hends b (head_join 32 P hne (fun p hp => (hP p hp).1) b hb)) (fun b hb => hends b (getLast_join 32 P hne (fun p hp => (hP p hp).1) b hb))) ?_
  refine Ev.congr (f := fun k => gronx_normalize.j0 k (B (joinL 32 P))) (fun k => ?_) ?_
  · simp only [toLower_plain _ (by omega : (joinL 32 P).length ≤ 140737488355328) h63, Option.bind_some, expression_no _ h63]
    rw [if_neg (by simp)]
  · refine Ev.step (f := fun k => (gronx_zzSpaces.f k (B (joinL 32 P))).bind fun t178 => ((strings_ToUpper.f t178).bind fun t179 => ((gronx_zzLiterals.f k t179).bind fun t180 => ((gronx_zzReplaceAll.f k t180 (⟨#[32, 32]⟩ : ByteArray) (⟨#[32]⟩ : ByteArray)).bind fun t181 => ((gronx_zzSplit.f k t181 (⟨#[32]⟩ : ByteArray)).bind fun t182 => (some t182)))))) (fun k => by simp only [gronx_normalize.j0]) ?_
    refine Ev.bind (zzSpaces_ev _ (by omega) hd hpl) ?_
    refine Ev.congr (f := fun k => (gronx_zzLiterals.f k (B (joinL 32 P))).bind fun t180 => ((gronx_zzReplaceAll.f k t180 (⟨#[32, 32]⟩ : ByteArray) (⟨#[32]⟩ : ByteArray)).bind fun t181 => ((gronx_zzSplit.f k t181 (⟨#[32]⟩ : ByteArray)).bind fun t182 => (some t182)))) (fun k => by rw [toUpper_plain _ (by omega : (joinL 32 P).length ≤ 140737488355328) h63]; rfl) ?_
    refine Ev.bind (zzLiterals_ev _ (by omega) h63) ?_
    refine Ev.bind (f := fun k t181 => ((gronx_zzSplit.f k t181 (⟨#[32]⟩ : ByteArray)).bind fun t182 => (some t182))) (zzReplace_no _ [32, 32] [32] (by simp) (by simp) (noDbl_idx _ hd 0) (by omega)) ?_
    have hs := zzSplit_ev 32 (joinL 32 P) hl
    rw [splitL_join 32 P hne (fun p hp e => by have := (hP p hp).2 32 e; simp at this)] at hs
    exact Ev.bind hs (Ev.const rfl)
theorem segments_ev (P : List (List UInt8)) (hP : ∀ p ∈ P, PartOk p) (hl : (joinL 32 P).length < 8796093022208) (h5 : 5 ≤ P.length) (h7 : P.length ≤ 7) (h5l : ∀ h : P.length = 6, (P[5]'(by omega)).length < 4611686018427387904) :
    Ev (fun k => gronx_Segments.f k (B (joinL 32 P))) (((if P.length = 5 ∨ (∃ h : P.length = 6, hasYr (P[5]'(by omega)) 0 = true) then [48] :: P else P).map B), none) := by
  have hne : P ≠ [] := by intro e; rw [e] at h5; simp at h5
  unfold gronx_Segments.f
  refine Ev.bind (f := fun k t185 => (if (t185.length : Int) < 5 then (gronx_Segments.j0 k t185 (t185.length : Int) true) else (gronx_Segments.j0 k t185 (t185.length : Int) (decide ((t185.length : Int) > 7))))) (normalize_ev P hne hP hl) ?_
  rw [List.length_map]
  refine Ev.congr (f := fun k => gronx_Segments.j0 k (P.map B) (P.length : Int) false) (fun k => ?_) ?_
  · rw [if_neg (by omega), decide_eq_false (by omega)]
  by_cases e5 : P.length = 5
  · rw [if_pos (Or.inl e5)]
    refine Ev.done fun k => ?_
    simp only [gronx_Segments.j0]
    rw [if_neg (by simp), if_pos (by omega)]
    simp only [Option.bind_some]
    rw [if_pos (by simp; omega)]
    rfl
  · by_cases e6 : P.length = 6
    · have hy := zzHasYear_ev (P[5]'(by omega)) (h5l e6)
      have hrd : rdOf ByteArray.empty (P.map B) 5 = B (P[5]'(by omega)) := by simp [rdOf, e6]
      refine Ev.step (f := fun k => (gronx_zzHasYear.f k (B (P[5]'(by omega)))).bind fun t199 => (if t199 = true then ((some (([(⟨#[48]⟩ : ByteArray)] : List ByteArray) : List ByteArray)).bind fun y200 => (if y200.length + (P.map B).length < 8796093022208 then (some ((y200 ++ P.map B), none)) else (none))) else (some (P.map B, none)))) (fun k => ?_) (Ev.bind hy (Ev.const ?_))
      · simp only [gronx_Segments.j0]
        rw [if_neg (by simp), if_neg (by omega), if_pos (by omega), if_pos (by simp; omega), hrd]
      · cases hb : hasYr (P[5]'(by omega)) 0 with
        | true =>
          rw [if_pos rfl, if_pos (Or.inr ⟨e6, hb⟩)]
          simp only [Option.bind_some]
          rw [if_pos (by simp; omega)]
          rfl
        | false =>
          rw [if_neg (by simp), if_neg (by rintro (h | ⟨_, h⟩); omega; rw [hb] at h; cases h)]
    · rw [if_neg (by rintro (h | ⟨h, _⟩) <;> omega)]
      refine Ev.done fun k => ?_
      simp only [gronx_Segments.j0]
      rw [if_neg (by simp), if_neg (by omega), if_neg (by omega)]
def nd (c : UInt8) : Prop := c.toNat < 48 ∨ 57 < c.toNat
end Go.Proofs.YtkhgeonlohafgaaGreatDoor.Core
namespace Go.Proofs.YtkhgeonlohafgaaGreatDoor.Core
open Go.RowKit Go.Proofs.YtkhgeonlohafgaaGreatDoorW.PrintWords
end Go.Proofs.YtkhgeonlohafgaaGreatDoor.Core
namespace Go.Proofs.YtkhgeonlohafgaaGreatDoor.Core
open Go.RowKit Go.Proofs.YtkhgeonlohafgaaGreatDoorW.PrintWords Go.Proofs.YtkhgeonlohafgaaGreatDoorW.PrintLast Go.Proofs.YtkhgeonlohafgaaGreatDoorW.PrintMore
attribute [local go_sem] max2_int min2_int max_two min_two max_three min_three max_four min_four   -- for this text's walks alone
set_option linter.unusedVariables false
set_option linter.unusedSimpArgs false
end Go.Proofs.YtkhgeonlohafgaaGreatDoor.Core
namespace Go.Proofs.YtkhgeonlohafgaaGreatDoor.Core
open Go.RowKit Go.Proofs.YtkhgeonlohafgaaGreatDoorW.PrintWords Go.Proofs.YtkhgeonlohafgaaGreatDoorW.PrintLast Go.Proofs.YtkhgeonlohafgaaGreatDoorW.PrintMore
attribute [local go_sem] max2_int min2_int max_two min_two max_three min_three max_four min_four   -- for this text's walks alone
set_option linter.unusedVariables false
set_option linter.unusedSimpArgs false
def gronx_boundsByPos.j0 : Nat → List Int → Int → Bool → Option (List Int)
  | 0, _, _, _ => none
  | k + 1, x2, x4, x5 => if x5 = true then (some (([0, 59] : List Int))) else (if x4 = 2 then (some (([0, 23] : List Int))) else (if x4 = 3 then (some (([1, 31] : List Int))) else (if x4 = 4 then (some (([1, 12] : List Int))) else (if x4 = 5 then (some (([0, 7] : List Int))) else (if x4 = 6 then (some (([0, 9999] : List Int))) else (some x2))))))
def gronx_boundsByPos.f (k : Nat) (a0 : Int) : Option (List Int) := (some (([0, 0] : List Int) : List Int)).bind fun y463 => (if a0 = 0 then (gronx_boundsByPos.j0 k y463 a0 (a0 == 0)) else (gronx_boundsByPos.j0 k y463 a0 (a0 == 1)))
set_option maxHeartbeats 8000000 in
set_option maxRecDepth 100000 in
theorem gronx_boundsByPos.calls (k : Nat) (a0 : Int) (r : List Int) (w : World) (h : gronx_boundsByPos.f k a0 = some r) :
    Calls Tryz.prog 85 #[.int .i64 a0] w fun e w' => ∃ v0_ : Value, e = .returned (v0_) ∧ Kd.R (Kd.int .i64) 3 w' w.heap.size (fun _ => True) v0_ r ∧ Below w.heap.size w w' := by
  have HB := Aside0.mk (Below.refl w.heap.size w)
  have H : ((some (([0, 0] : List Int) : List Int)).bind fun y463 => (if a0 = 0 then (gronx_boundsByPos.j0 k y463 a0 (a0 == 0)) else (gronx_boundsByPos.j0 k y463 a0 (a0 == 1)))) = some r := h
  clear h
  obtain ⟨y463, hy463⟩ : ∃ y_ : List Int, y_ = (([0, 0] : List Int)) := ⟨_, rfl⟩
  replace H : (if a0 = 0 then (gronx_boundsByPos.j0 k y463 a0 (a0 == 0)) else (gronx_boundsByPos.j0 k y463 a0 (a0 == 1))) = some r := by first | (rw [hy463]; with_reducible exact H) | (have H2_ := (Option.bind_some _ _).symm.trans H; rw [hy463]; with_reducible exact H2_) | (have H2_ := (Option.bind_some _ _).symm.trans H; with_reducible exact H2_) | with_reducible exact H | (rw [hy463]; exact H) | exact H
  have Ny463 := Aside0.mk hy463
  clear hy463
  have HC2 := Aside0.mk H
  clear H
  go_enter Tryz.func85, Tryz.ntmps85
  go_upto_if 5 with (first | ((with_reducible refine gate_dst (N := 3) rfl ?_); refine Kd.R_lit (Kd.int .i64) _ 3 ?hg (N := 3) ?hd (xs := ([0, 0] : List Int)) (inner := [.int .i64 0, .int .i64 0]) (ok := fun _ => True) (okp := fun _ => True) ?hr ?hp (fun _ hk => hk) trivial (Below.refl _ _) (Nat.le_refl _) (by simp) ?_; (case hd => rfl); (case hg => rfl); (case hr => first | (go_simp; done) | (go_simp; rfl)); (case hp => exact (Reps.one (show Kd.M (Kd.int .i64) _ _ _ 0 [.int .i64 0] from rfl) (Reps.one (show Kd.M (Kd.int .i64) _ _ _ 0 [.int .i64 0] from rfl) (Reps.none _ _)))); intro v464 w3 ho4 hb hg_ hnew_; clear hg_ hnew_; (first | rw [← Ny463.out] at ho4 | (simp only [Int.reduceToNat] at ho4; rw [← Ny463.out] at ho4)); have n0_ := Aside0.mk (Kd.R_lower ho4 (below_size (by repeat (first | (with_reducible first | exact HB.out | apply below_alloc | apply pw_below_drewN | apply below_drew1) | exact HB.out)))); have n1_ := Aside0.mk (below_step (by repeat (first | (with_reducible first | exact HB.out | apply below_alloc | apply pw_below_drewN | apply below_drew1) | exact HB.out)) hb); clear HB; have HO465 := n0_; have HB := n1_; clear n0_ n1_; clear hb ho4))
  (try simp only [Act.put, List.setIfInBounds_toArray, List.set_cons_zero, List.set_cons_succ])
  go_cut [5] (fun v5 wc => ∃ (kq : Nat) (x5_1 : Bool), v5 = .bool x5_1 ∧ Aside0 (gronx_boundsByPos.j0 kq y463 a0 x5_1 = some r) ∧ Aside0 (kq ≤ k) ∧ Aside0 (Kd.R (Kd.int .i64) 3 wc w.heap.size (fun _ => True) v464 y463) ∧ Aside0 (Below w.heap.size w wc))
  case first =>
    have H := HC2.out
    clear HC2
    by_cases c5 : a0 = 0
    · rw [if_pos c5] at H
      have c5b0 : (a0 == 0) = true := beq_iff_eq.mpr c5
      have c5b1 : (a0 != 0) = false := bne_eq_false_iff_eq.mpr c5
      clear c5
      (first | rw [c5b0] | (simp only [i64_w, i32_w]; rw [c5b0]) | skip)
      have H' := Aside0.mk H
      clear H
      go_wp2
      go_meet
      case rel => exact ⟨_, ((a0 == 0)), (by first | rfl | (simp; done) | (simp [*]; done)), H', ⟨by first | omega | exact Nat.le_refl _⟩, ⟨by (with_reducible repeat (first | apply Kd.R_alloc | apply Kd.R_drewN | apply Kd.R_drew)); exact HO465.out⟩, ⟨by repeat (first | (with_reducible first | exact HB.out | apply below_alloc | apply pw_below_drewN | apply below_drew1) | exact HB.out)⟩⟩
    · rw [if_neg c5] at H
      have c5b0 : (a0 == 0) = false := beq_eq_false_iff_ne.mpr c5
      have c5b1 : (a0 != 0) = true := bne_iff_ne.mpr c5
      (first | rw [c5b0] | (simp only [i64_w, i32_w]; rw [c5b0]) | skip)
      have H' := Aside0.mk H
      clear H
      go_wp2
      go_meet
      case rel => exact ⟨_, ((a0 == 1)), (by first | rfl | (simp; done) | (simp [*]; done)), H', ⟨by first | omega | exact Nat.le_refl _⟩, ⟨by (with_reducible repeat (first | apply Kd.R_alloc | apply Kd.R_drewN | apply Kd.R_drew)); exact HO465.out⟩, ⟨by repeat (first | (with_reducible first | exact HB.out | apply below_alloc | apply pw_below_drewN | apply below_drew1) | exact HB.out)⟩⟩
  case rest =>
    clear HC2
    try clear p2
    try clear c5
    try clear c5b0
    try clear c5b1
    obtain ⟨kq, x5_1, rfl, HA, HJ1, HO_2, HB⟩ := hcut
    cases kq with
    | zero => exact absurd HA.out (by simp [gronx_boundsByPos.j0])
    | succ kj1 =>
      have H := HA.out
      clear HA
      simp only [gronx_boundsByPos.j0] at H
      by_cases c6 : x5_1 = true
      · subst c6
        have H1 : (some (([0, 59] : List Int))) = some r := by rw [if_pos rfl] at H; exact H
        clear H
        have H := H1
        clear H1
        obtain ⟨y466, hy466⟩ : ∃ y_ : List Int, y_ = (([0, 59] : List Int)) := ⟨_, rfl⟩
        replace H : (some y466) = some r := by first | (rw [hy466]; with_reducible exact H) | (have H2_ := (Option.bind_some _ _).symm.trans H; rw [hy466]; with_reducible exact H2_) | (have H2_ := (Option.bind_some _ _).symm.trans H; with_reducible exact H2_) | with_reducible exact H | (rw [hy466]; exact H) | exact H
        have Ny466 := Aside0.mk hy466
        clear hy466
        obtain rfl := Option.some.inj H
        go_wp2_with (first | ((with_reducible refine gate_dst (N := 8) rfl ?_); refine Kd.R_lit (Kd.int .i64) _ 3 ?hg (N := 8) ?hd (xs := ([0, 59] : List Int)) (inner := [.int .i64 0, .int .i64 59]) (ok := fun _ => True) (okp := fun _ => True) ?hr ?hp (fun _ hk => hk) trivial (Below.refl _ _) (Nat.le_refl _) (by simp) ?_; (case hd => rfl); (case hg => rfl); (case hr => first | (go_simp; done) | (go_simp; rfl)); (case hp => exact (Reps.one (show Kd.M (Kd.int .i64) _ _ _ 0 [.int .i64 0] from rfl) (Reps.one (show Kd.M (Kd.int .i64) _ _ _ 59 [.int .i64 59] from rfl) (Reps.none _ _)))); intro v467 w7 ho8 hb hg_ hnew_; clear hg_ hnew_; (first | rw [← Ny466.out] at ho8 | (simp only [Int.reduceToNat] at ho8; rw [← Ny466.out] at ho8)); have n0_ := Aside0.mk (Kd.R_elder' (by (with_reducible repeat (first | apply Kd.R_alloc | apply Kd.R_drewN | apply Kd.R_drew)); exact HO_2.out) (Kd.R_base ho8) hb); have n1_ := Aside0.mk (Kd.R_lower (Kd.R_new' ho8 (Kd.R_lt (by (with_reducible repeat (first | apply Kd.R_alloc | apply Kd.R_drewN | apply Kd.R_drew)); exact HO_2.out))) (below_size (by repeat (first | (with_reducible first | exact HB.out | apply below_alloc | apply pw_below_drewN | apply below_drew1) | exact HB.out)))); have n2_ := Aside0.mk (below_step (by repeat (first | (with_reducible first | exact HB.out | apply below_alloc | apply pw_below_drewN | apply below_drew1) | exact HB.out)) hb); clear HO_2; clear HB; have HO_2 := n0_; have HO468 := n1_; have HB := n2_; clear n0_ n1_ n2_; clear hb ho8))
        go_ret
        exact ⟨_, by first | rfl | (simp [errW_none, errW_some] <;> rfl) | (simp [*, errW_none, errW_some] <;> rfl), by (with_reducible repeat (first | apply Kd.R_alloc | apply Kd.R_drewN | apply Kd.R_drew)); exact Kd.R_mono HO468.out (fun _ hk => trivial), by repeat (first | (with_reducible first | exact HB.out | apply below_alloc | apply pw_below_drewN | apply below_drew1) | exact HB.out)⟩
      · replace c6 := Bool.eq_false_iff.mpr c6
        subst c6
        have H1 : (if a0 = 2 then (some (([0, 23] : List Int))) else (if a0 = 3 then (some (([1, 31] : List Int))) else (if a0 = 4 then (some (([1, 12] : List Int))) else (if a0 = 5 then (some (([0, 7] : List Int))) else (if a0 = 6 then (some (([0, 9999] : List Int))) else (some y463)))))) = some r := by rw [if_neg (show ¬ (false = true) by decide)] at H; exact H
        clear H
        have H := H1
        clear H1
        by_cases c9 : a0 = 2
        · rw [if_pos c9] at H
          have c9b0 : (a0 == 2) = true := beq_iff_eq.mpr c9
          have c9b1 : (a0 != 2) = false := bne_eq_false_iff_eq.mpr c9
          clear c9
          obtain ⟨y469, hy469⟩ : ∃ y_ : List Int, y_ = (([0, 23] : List Int)) := ⟨_, rfl⟩
          replace H : (some y469) = some r := by first | (rw [hy469]; with_reducible exact H) | (have H2_ := (Option.bind_some _ _).symm.trans H; rw [hy469]; with_reducible exact H2_) | (have H2_ := (Option.bind_some _ _).symm.trans H; with_reducible exact H2_) | with_reducible exact H | (rw [hy469]; exact H) | exact H
          have Ny469 := Aside0.mk hy469
          clear hy469
          obtain rfl := Option.some.inj H
          go_wp2_with (first | ((with_reducible refine gate_dst (N := 11) rfl ?_); refine Kd.R_lit (Kd.int .i64) _ 3 ?hg (N := 11) ?hd (xs := ([0, 23] : List Int)) (inner := [.int .i64 0, .int .i64 23]) (ok := fun _ => True) (okp := fun _ => True) ?hr ?hp (fun _ hk => hk) trivial (Below.refl _ _) (Nat.le_refl _) (by simp) ?_; (case hd => rfl); (case hg => rfl); (case hr => first | (go_simp; done) | (go_simp; rfl)); (case hp => exact (Reps.one (show Kd.M (Kd.int .i64) _ _ _ 0 [.int .i64 0] from rfl) (Reps.one (show Kd.M (Kd.int .i64) _ _ _ 23 [.int .i64 23] from rfl) (Reps.none _ _)))); intro v470 w10 ho11 hb hg_ hnew_; clear hg_ hnew_; (first | rw [← Ny469.out] at ho11 | (simp only [Int.reduceToNat] at ho11; rw [← Ny469.out] at ho11)); have n0_ := Aside0.mk (Kd.R_elder' (by (with_reducible repeat (first | apply Kd.R_alloc | apply Kd.R_drewN | apply Kd.R_drew)); exact HO_2.out) (Kd.R_base ho11) hb); have n1_ := Aside0.mk (Kd.R_lower (Kd.R_new' ho11 (Kd.R_lt (by (with_reducible repeat (first | apply Kd.R_alloc | apply Kd.R_drewN | apply Kd.R_drew)); exact HO_2.out))) (below_size (by repeat (first | (with_reducible first | exact HB.out | apply below_alloc | apply pw_below_drewN | apply below_drew1) | exact HB.out)))); have n2_ := Aside0.mk (below_step (by repeat (first | (with_reducible first | exact HB.out | apply below_alloc | apply pw_below_drewN | apply below_drew1) | exact HB.out)) hb); clear HO_2; clear HB; have HO_2 := n0_; have HO471 := n1_; have HB := n2_; clear n0_ n1_ n2_; clear hb ho11))
          go_ret
          exact ⟨_, by first | rfl | (simp [errW_none, errW_some] <;> rfl) | (simp [*, errW_none, errW_some] <;> rfl), by (with_reducible repeat (first | apply Kd.R_alloc | apply Kd.R_drewN | apply Kd.R_drew)); exact Kd.R_mono HO471.out (fun _ hk => trivial), by repeat (first | (with_reducible first | exact HB.out | apply below_alloc | apply pw_below_drewN | apply below_drew1) | exact HB.out)⟩
        · rw [if_neg c9] at H
          have c9b0 : (a0 == 2) = false := beq_eq_false_iff_ne.mpr c9
          have c9b1 : (a0 != 2) = true := bne_iff_ne.mpr c9
          by_cases c12 : a0 = 3
          · rw [if_pos c12] at H
            have c12b0 : (a0 == 3) = true := beq_iff_eq.mpr c12
            have c12b1 : (a0 != 3) = false := bne_eq_false_iff_eq.mpr c12
            clear c12
            obtain ⟨y472, hy472⟩ : ∃ y_ : List Int, y_ = (([1, 31] : List Int)) := ⟨_, rfl⟩
            replace H : (some y472) = some r := by first | (rw [hy472]; with_reducible exact H) | (have H2_ := (Option.bind_some _ _).symm.trans H; rw [hy472]; with_reducible exact H2_) | (have H2_ := (Option.bind_some _ _).symm.trans H; with_reducible exact H2_) | with_reducible exact H | (rw [hy472]; exact H) | exact H
            have Ny472 := Aside0.mk hy472
            clear hy472
            obtain rfl := Option.some.inj H
            go_wp2_with (first | ((with_reducible refine gate_dst (N := 14) rfl ?_); refine Kd.R_lit (Kd.int .i64) _ 3 ?hg (N := 14) ?hd (xs := ([1, 31] : List Int)) (inner := [.int .i64 1, .int .i64 31]) (ok := fun _ => True) (okp := fun _ => True) ?hr ?hp (fun _ hk => hk) trivial (Below.refl _ _) (Nat.le_refl _) (by simp) ?_; (case hd => rfl); (case hg => rfl); (case hr => first | (go_simp; done) | (go_simp; rfl)); (case hp => exact (Reps.one (show Kd.M (Kd.int .i64) _ _ _ 1 [.int .i64 1] from rfl) (Reps.one (show Kd.M (Kd.int .i64) _ _ _ 31 [.int .i64 31] from rfl) (Reps.none _ _)))); intro v473 w13 ho14 hb hg_ hnew_; clear hg_ hnew_; (first | rw [← Ny472.out] at ho14 | (simp only [Int.reduceToNat] at ho14; rw [← Ny472.out] at ho14)); have n0_ := Aside0.mk (Kd.R_elder' (by (with_reducible repeat (first | apply Kd.R_alloc | apply Kd.R_drewN | apply Kd.R_drew)); exact HO_2.out) (Kd.R_base ho14) hb); have n1_ := Aside0.mk (Kd.R_lower (Kd.R_new' ho14 (Kd.R_lt (by (with_reducible repeat (first | apply Kd.R_alloc | apply Kd.R_drewN | apply Kd.R_drew)); exact HO_2.out))) (below_size (by repeat (first | (with_reducible first | exact HB.out | apply below_alloc | apply pw_below_drewN | apply below_drew1) | exact HB.out)))); have n2_ := Aside0.mk (below_step (by repeat (first | (with_reducible first | exact HB.out | apply below_alloc | apply pw_below_drewN | apply below_drew1) | exact HB.out)) hb); clear HO_2; clear HB; have HO_2 := n0_; have HO474 := n1_; have HB := n2_; clear n0_ n1_ n2_; clear hb ho14))
            go_ret
            exact ⟨_, by first | rfl | (simp [errW_none, errW_some] <;> rfl) | (simp [*, errW_none, errW_some] <;> rfl), by (with_reducible repeat (first | apply Kd.R_alloc | apply Kd.R_drewN | apply Kd.R_drew)); exact Kd.R_mono HO474.out (fun _ hk => trivial), by repeat (first | (with_reducible first | exact HB.out | apply below_alloc | apply pw_below_drewN | apply below_drew1) | exact HB.out)⟩
          · rw [if_neg c12] at H
            have c12b0 : (a0 == 3) = false := beq_eq_false_iff_ne.mpr c12
            have c12b1 : (a0 != 3) = true := bne_iff_ne.mpr c12
            by_cases c15 : a0 = 4
            · rw [if_pos c15] at H
              have c15b0 : (a0 == 4) = true := beq_iff_eq.mpr c15
              have c15b1 : (a0 != 4) = false := bne_eq_false_iff_eq.mpr c15
              clear c15
              obtain ⟨y475, hy475⟩ : ∃ y_ : List Int, y_ = (([1, 12] : List Int)) := ⟨_, rfl⟩
              replace H : (some y475) = some r := by first | (rw [hy475]; with_reducible exact H) | (have H2_ := (Option.bind_some _ _).symm.trans H; rw [hy475]; with_reducible exact H2_) | (have H2_ := (Option.bind_some _ _).symm.trans H; with_reducible exact H2_) | with_reducible exact H | (rw [hy475]; exact H) | exact H
              have Ny475 := Aside0.mk hy475
              clear hy475
              obtain rfl := Option.some.inj H
              go_wp2_with (first | ((with_reducible refine gate_dst (N := 17) rfl ?_); refine Kd.R_lit (Kd.int .i64) _ 3 ?hg (N := 17) ?hd (xs := ([1, 12] : List Int)) (inner := [.int .i64 1, .int .i64 12]) (ok := fun _ => True) (okp := fun _ => True) ?hr ?hp (fun _ hk => hk) trivial (Below.refl _ _) (Nat.le_refl _) (by simp) ?_; (case hd => rfl); (case hg => rfl); (case hr => first | (go_simp; done) | (go_simp; rfl)); (case hp => exact (Reps.one (show Kd.M (Kd.int .i64) _ _ _ 1 [.int .i64 1] from rfl) (Reps.one (show Kd.M (Kd.int .i64) _ _ _ 12 [.int .i64 12] from rfl) (Reps.none _ _)))); intro v476 w16 ho17 hb hg_ hnew_; clear hg_ hnew_; (first | rw [← Ny475.out] at ho17 | (simp only [Int.reduceToNat] at ho17; rw [← Ny475.out] at ho17)); have n0_ := Aside0.mk (Kd.R_elder' (by (with_reducible repeat (first | apply Kd.R_alloc | apply Kd.R_drewN | apply Kd.R_drew)); exact HO_2.out) (Kd.R_base ho17) hb); have n1_ := Aside0.mk (Kd.R_lower (Kd.R_new' ho17 (Kd.R_lt (by (with_reducible repeat (first | apply Kd.R_alloc | apply Kd.R_drewN | apply Kd.R_drew)); exact HO_2.out))) (below_size (by repeat (first | (with_reducible first | exact HB.out | apply below_alloc | apply pw_below_drewN | apply below_drew1) | exact HB.out)))); have n2_ := Aside0.mk (below_step (by repeat (first | (with_reducible first | exact HB.out | apply below_alloc | apply pw_below_drewN | apply below_drew1) | exact HB.out)) hb); clear HO_2; clear HB; have HO_2 := n0_; have HO477 := n1_; have HB := n2_; clear n0_ n1_ n2_; clear hb ho17))
              go_ret
              exact ⟨_, by first | rfl | (simp [errW_none, errW_some] <;> rfl) | (simp [*, errW_none, errW_some] <;> rfl), by (with_reducible repeat (first | apply Kd.R_alloc | apply Kd.R_drewN | apply Kd.R_drew)); exact Kd.R_mono HO477.out (fun _ hk => trivial), by repeat (first | (with_reducible first | exact HB.out | apply below_alloc | apply pw_below_drewN | apply below_drew1) | exact HB.out)⟩
            · rw [if_neg c15] at H
              have c15b0 : (a0 == 4) = false := beq_eq_false_iff_ne.mpr c15
              have c15b1 : (a0 != 4) = true := bne_iff_ne.mpr c15
              by_cases c18 : a0 = 5
              · rw [if_pos c18] at H
                have c18b0 : (a0 == 5) = true := beq_iff_eq.mpr c18
                have c18b1 : (a0 != 5) = false := bne_eq_false_iff_eq.mpr c18
                clear c18
                obtain ⟨y478, hy478⟩ : ∃ y_ : List Int, y_ = (([0, 7] : List Int)) := ⟨_, rfl⟩
                replace H : (some y478) = some r := by first | (rw [hy478]; with_reducible exact H) | (have H2_ := (Option.bind_some _ _).symm.trans H; rw [hy478]; with_reducible exact H2_) | (have H2_ := (Option.bind_some _ _).symm.trans H; with_reducible exact H2_) | with_reducible exact H | (rw [hy478]; exact H) | exact H
                have Ny478 := Aside0.mk hy478
                clear hy478
                obtain rfl := Option.some.inj H
                go_wp2_with (first | ((with_reducible refine gate_dst (N := 20) rfl ?_); refine Kd.R_lit (Kd.int .i64) _ 3 ?hg (N := 20) ?hd (xs := ([0, 7] : List Int)) (inner := [.int .i64 0, .int .i64 7]) (ok := fun _ => True) (okp := fun _ => True) ?hr ?hp (fun _ hk => hk) trivial (Below.refl _ _) (Nat.le_refl _) (by simp) ?_; (case hd => rfl); (case hg => rfl); (case hr => first | (go_simp; done) | (go_simp; rfl)); (case hp => exact (Reps.one (show Kd.M (Kd.int .i64) _ _ _ 0 [.int .i64 0] from rfl) (Reps.one (show Kd.M (Kd.int .i64) _ _ _ 7 [.int .i64 7] from rfl) (Reps.none _ _)))); intro v479 w19 ho20 hb hg_ hnew_; clear hg_ hnew_; (first | rw [← Ny478.out] at ho20 | (simp only [Int.reduceToNat] at ho20; rw [← Ny478.out] at ho20)); have n0_ := Aside0.mk (Kd.R_elder' (by (with_reducible repeat (first | apply Kd.R_alloc | apply Kd.R_drewN | apply Kd.R_drew)); exact HO_2.out) (Kd.R_base ho20) hb); have n1_ := Aside0.mk (Kd.R_lower (Kd.R_new' ho20 (Kd.R_lt (by (with_reducible repeat (first | apply Kd.R_alloc | apply Kd.R_drewN | apply Kd.R_drew)); exact HO_2.out))) (below_size (by repeat (first | (with_reducible first | exact HB.out | apply below_alloc | apply pw_below_drewN | apply below_drew1) | exact HB.out)))); have n2_ := Aside0.mk (below_step (by repeat (first | (with_reducible first | exact HB.out | apply below_alloc | apply pw_below_drewN | apply below_drew1) | exact HB.out)) hb); clear HO_2; clear HB; have HO_2 := n0_; have HO480 := n1_; have HB := n2_; clear n0_ n1_ n2_; clear hb ho20))
                go_ret
                exact ⟨_, by first | rfl | (simp [errW_none, errW_some] <;> rfl) | (simp [*, errW_none, errW_some] <;> rfl), by (with_reducible repeat (first | apply Kd.R_alloc | apply Kd.R_drewN | apply Kd.R_drew)); exact Kd.R_mono HO480.out (fun _ hk => trivial), by repeat (first | (with_reducible first | exact HB.out | apply below_alloc | apply pw_below_drewN | apply below_drew1) | exact HB.out)⟩
              · rw [if_neg c18] at H
                have c18b0 : (a0 == 5) = false := beq_eq_false_iff_ne.mpr c18
                have c18b1 : (a0 != 5) = true := bne_iff_ne.mpr c18
                by_cases c21 : a0 = 6
                · rw [if_pos c21] at H
                  have c21b0 : (a0 == 6) = true := beq_iff_eq.mpr c21
                  have c21b1 : (a0 != 6) = false := bne_eq_false_iff_eq.mpr c21
                  clear c21
                  obtain ⟨y481, hy481⟩ : ∃ y_ : List Int, y_ = (([0, 9999] : List Int)) := ⟨_, rfl⟩
                  replace H : (some y481) = some r := by first | (rw [hy481]; with_reducible exact H) | (have H2_ := (Option.bind_some _ _).symm.trans H; rw [hy481]; with_reducible exact H2_) | (have H2_ := (Option.bind_some _ _).symm.trans H; with_reducible exact H2_) | with_reducible exact H | (rw [hy481]; exact H) | exact H
                  have Ny481 := Aside0.mk hy481
                  clear hy481
                  obtain rfl := Option.some.inj H
                  go_wp2_with (first | ((with_reducible refine gate_dst (N := 23) rfl ?_); refine Kd.R_lit (Kd.int .i64) _ 3 ?hg (N := 23) ?hd (xs := ([0, 9999] : List Int)) (inner := [.int .i64 0, .int .i64 9999]) (ok := fun _ => True) (okp := fun _ => True) ?hr ?hp (fun _ hk => hk) trivial (Below.refl _ _) (Nat.le_refl _) (by simp) ?_; (case hd => rfl); (case hg => rfl); (case hr => first | (go_simp; done) | (go_simp; rfl)); (case hp => exact (Reps.one (show Kd.M (Kd.int .i64) _ _ _ 0 [.int .i64 0] from rfl) (Reps.one (show Kd.M (Kd.int .i64) _ _ _ 9999 [.int .i64 9999] from rfl) (Reps.none _ _)))); intro v482 w22 ho23 hb hg_ hnew_; clear hg_ hnew_; (first | rw [← Ny481.out] at ho23 | (simp only [Int.reduceToNat] at ho23; rw [← Ny481.out] at ho23)); have n0_ := Aside0.mk (Kd.R_elder' (by (with_reducible repeat (first | apply Kd.R_alloc | apply Kd.R_drewN | apply Kd.R_drew)); exact HO_2.out) (Kd.R_base ho23) hb); have n1_ := Aside0.mk (Kd.R_lower (Kd.R_new' ho23 (Kd.R_lt (by (with_reducible repeat (first | apply Kd.R_alloc | apply Kd.R_drewN | apply Kd.R_drew)); exact HO_2.out))) (below_size (by repeat (first | (with_reducible first | exact HB.out | apply below_alloc | apply pw_below_drewN | apply below_drew1) | exact HB.out)))); have n2_ := Aside0.mk (below_step (by repeat (first | (with_reducible first | exact HB.out | apply below_alloc | apply pw_below_drewN | apply below_drew1) | exact HB.out)) hb); clear HO_2; clear HB; have HO_2 := n0_; have HO483 := n1_; have HB := n2_; clear n0_ n1_ n2_; clear hb ho23))
                  go_ret
                  exact ⟨_, by first | rfl | (simp [errW_none, errW_some] <;> rfl) | (simp [*, errW_none, errW_some] <;> rfl), by (with_reducible repeat (first | apply Kd.R_alloc | apply Kd.R_drewN | apply Kd.R_drew)); exact Kd.R_mono HO483.out (fun _ hk => trivial), by repeat (first | (with_reducible first | exact HB.out | apply below_alloc | apply pw_below_drewN | apply below_drew1) | exact HB.out)⟩
                · rw [if_neg c21] at H
                  have c21b0 : (a0 == 6) = false := beq_eq_false_iff_ne.mpr c21
                  have c21b1 : (a0 != 6) = true := bne_iff_ne.mpr c21
                  obtain rfl := Option.some.inj H
                  go_wp2
                  go_ret
                  exact ⟨_, by first | rfl | (simp [errW_none, errW_some] <;> rfl) | (simp [*, errW_none, errW_some] <;> rfl), by (with_reducible repeat (first | apply Kd.R_alloc | apply Kd.R_drewN | apply Kd.R_drew)); exact HO_2.out, by repeat (first | (with_reducible first | exact HB.out | apply below_alloc | apply pw_below_drewN | apply below_drew1) | exact HB.out)⟩
end Go.Proofs.YtkhgeonlohafgaaGreatDoor.Core
namespace Go.Proofs.YtkhgeonlohafgaaGreatDoor.Core
open Go.RowKit Go.Proofs.YtkhgeonlohafgaaGreatDoorW.PrintWords Go.Proofs.YtkhgeonlohafgaaGreatDoorW.PrintLast Go.Proofs.YtkhgeonlohafgaaGreatDoorW.PrintMore
attribute [local go_sem] max2_int min2_int max_two min_two max_three min_three max_four min_four   -- for this text's walks alone
set_option linter.unusedVariables false
set_option linter.unusedSimpArgs false
def gronx_zzContains.f (k : Nat) (a0 : ByteArray) (a1 : ByteArray) : Option (Bool) := (gronx_zzIndex.f k a0 a1).bind fun t451 => (some (decide (t451 ≥ 0)))
set_option maxHeartbeats 8000000 in
set_option maxRecDepth 100000 in
theorem gronx_zzContains.calls (k : Nat) (a0 : ByteArray) (a1 : ByteArray) (r : Bool) (w : World) (h : gronx_zzContains.f k a0 a1 = some r) :
    Calls Tryz.prog 56 #[.string a0, .string a1] w fun e w' => e = .returned (.bool r) ∧ Drawn0 w w' := by
  have H : ((gronx_zzIndex.f k a0 a1).bind fun t451 => (some (decide (t451 ≥ 0)))) = some r := h
  clear h
  replace H := Option.bind_eq_some_iff.mp H
  obtain ⟨t451, A30, H⟩ := H
  replace H : (some (decide (t451 ≥ 0))) = some r := H
  have A3 := Aside0.mk A30
  clear A30
  obtain rfl := Option.some.inj H
  go_enter Tryz.func56, Tryz.ntmps56
  go_wp2_with (first | ((with_reducible refine gate_callee (f := 80) rfl ?_); refine goesL_ (some 7) rfl rfl Tryz.func80 (by kernel_rfl) rfl #[.string a0, .string a1] rfl (by (try simp only [List.map_toArray, List.map_cons, List.map_nil]); first | done | rfl | (simp only [List.length_drop, List.length_take]; rfl)) ?_; (with_reducible refine (gronx_zzIndex.calls k a0 a1 t451 _ A3.out).mono ?_); rintro e w' ⟨rfl, ⟨nd, rfl⟩⟩; refine ⟨_, rfl, ?_⟩))
  go_ret
  exact ⟨by first | rfl | (simp; done) | (simp [*]; done), by repeat (first | exact Drawn0.refl _ | apply Drawn0.step)⟩
end Go.Proofs.YtkhgeonlohafgaaGreatDoor.Core
namespace Go.Proofs.YtkhgeonlohafgaaGreatDoor.Core
open Go.RowKit Go.Proofs.YtkhgeonlohafgaaGreatDoorW.PrintWords
def strconv_Atoi.f (a0 : ByteArray) : Option (Int × Option Int) := if a0.size ≤ 18 then ((Lib.atoi a0.data.toList).bind fun n => some (n, none)) else none
theorem strconv_Atoi.calls (a0 : ByteArray) (r1 : Int) (r2 : Option Int) (w : World) (h : strconv_Atoi.f a0 = some (r1, r2)) :
    Calls Tryz.prog 88 #[.string a0] w fun e w' => e = .returned (.tuple #[.int .i64 r1, errW r2]) ∧ Below w.heap.size w w' := by
  unfold strconv_Atoi.f at h
  split at h
  · rename_i h1
    obtain ⟨n, hn, h⟩ := Option.bind_eq_some_iff.1 h
    simp only [Option.some.injEq, Prod.mk.injEq] at h
    obtain ⟨rfl, rfl⟩ := h
    refine (Tryz.strconv_Atoi a0 n h1 hn w).mono ?_
    rintro e w' ⟨rfl, t, rfl⟩
    exact ⟨rfl, bytes_below (Below.refl _ _) (Nat.le_refl _) _ _⟩
  · cases h
end Go.Proofs.YtkhgeonlohafgaaGreatDoor.Core
namespace Go.Proofs.YtkhgeonlohafgaaGreatDoor.Core
open Go.RowKit Go.Proofs.YtkhgeonlohafgaaGreatDoorW.PrintWords
theorem two_int {w : World} {A : Option Addr} {t : List Int} {n : Nat} (h : Kd.C (Kd.int .i64) w A n t) (hn : n = t.length) (h2 : 1 < t.length) : ∃ ad, A = some ad ∧ w.cell? ad = some (.int .i64 (rd t 0)) ∧ w.cell? ⟨ad.block, ad.off + 1, none⟩ = some (.int .i64 (rd t 1)) := by
  subst hn
  obtain ⟨ad, rfl, hx0⟩ := Kd.at_int h 0 (by omega) (by omega)
  obtain ⟨ad', ea, hx1⟩ := Kd.at_int h 1 (by omega) (by omega)
  obtain rfl := Option.some.inj ea
  exact ⟨ad, rfl, hx0, hx1⟩
end Go.Proofs.YtkhgeonlohafgaaGreatDoor.Core
namespace Go.Proofs.YtkhgeonlohafgaaGreatDoor.Core
open Go.RowKit Go.Proofs.YtkhgeonlohafgaaGreatDoorW.PrintWords
structure Moment' (x y mo d h mi s : Int) : Prop where
  date : DateOk y mo d
  clock : ClockOk h mi s
  ext : x = extOf y mo d h mi s
def posV (y mo d h mi s : Int) (pos : Int) : Int := if pos = 0 then s else if pos = 1 then mi else if pos = 2 then h else if pos = 3 then d else if pos = 4 then mo else if pos = 5 then wdI y mo d else y
section
variable {x y mo d h mi s : Int} (M : Moment' x y mo d h mi s)
include M
theorem Moment'.r0 : 62700000000 ≤ x := M.ext ▸ (ext_range M.date M.clock).1
theorem Moment'.r1 : x ≤ 66100000000 := M.ext ▸ (ext_range M.date M.clock).2
theorem Moment'.abs : x + 9223371966606163200 = absD y mo d * 86400 + (h * 3600 + mi * 60 + s) := by rw [M.ext]; unfold extOf; omega
theorem Moment'.days : gotime_absSeconds_days.f (x + 9223371966606163200) = some (absD y mo d) := M.ext ▸ days_ext M.date M.clock
theorem sec_m (w : World) : Calls Tryz.prog 81 #[.agg #[.int .u64 0, .int .i64 x, .pointer none]] w fun e w' => e = .returned (.int .i64 s) ∧ Below w.heap.size w w' := by
  have e : (x + 9223371966606163200) % 60 = s := by rw [M.abs]; have := M.clock.s0; have := M.clock.s1; omega
  have := second_w x w M.r0 M.r1
  rwa [e] at this
theorem min_m (w : World) : Calls Tryz.prog 82 #[.agg #[.int .u64 0, .int .i64 x, .pointer none]] w fun e w' => e = .returned (.int .i64 mi) ∧ Below w.heap.size w w' := by
  have e : (x + 9223371966606163200) % 3600 / 60 = mi := by rw [M.abs]; have := M.clock.s0; have := M.clock.s1; have := M.clock.m0; have := M.clock.m1; omega
  have := minute_w x w M.r0 M.r1
  rwa [e] at this
theorem hour_m (w : World) : Calls Tryz.prog 83 #[.agg #[.int .u64 0, .int .i64 x, .pointer none]] w fun e w' => e = .returned (.int .i64 h) ∧ Below w.heap.size w w' := by
  have e : (x + 9223371966606163200) % 86400 / 3600 = h := by rw [M.abs]; have := M.clock.s0; have := M.clock.s1; have := M.clock.m0; have := M.clock.m1; have := M.clock.h0; have := M.clock.h1; omega
  have := hour_w x w M.r0 M.r1
  rwa [e] at this
theorem day_m (w : World) : Calls Tryz.prog 65 #[.agg #[.int .u64 0, .int .i64 x, .pointer none]] w fun e w' => e = .returned (.int .i64 d) ∧ Below w.heap.size w w' :=
  day_w x _ _ _ _ _ d w M.r0 M.r1 ⟨M.days⟩ ⟨split_date M.date⟩ ⟨(aydSplit M.date).1⟩
theorem month_m (w : World) : Calls Tryz.prog 62 #[.agg #[.int .u64 0, .int .i64 x, .pointer none]] w fun e w' => e = .returned (.int .i64 mo) ∧ Below w.heap.size w w' :=
  month_w x _ _ _ _ _ _ mo d w M.r0 M.r1 ⟨M.days⟩ ⟨split_date M.date⟩ ⟨(aydSplit M.date).1⟩ ⟨(aydSplit M.date).2.1⟩ ⟨(aydSplit M.date).2.2⟩
theorem year_m (w : World) : Calls Tryz.prog 61 #[.agg #[.int .u64 0, .int .i64 x, .pointer none]] w fun e w' => e = .returned (.int .i64 y) ∧ Below w.heap.size w w' :=
  year_w x _ _ _ _ _ y w M.r0 M.r1 ⟨M.days⟩ ⟨split_date M.date⟩ ⟨(aydSplit M.date).2.1⟩ ⟨centuryYear M.date⟩
theorem weekday_m (w : World) : Calls Tryz.prog 84 #[.agg #[.int .u64 0, .int .i64 x, .pointer none]] w fun e w' => e = .returned (.int .i64 (wdI y mo d)) ∧ Below w.heap.size w w' :=
  weekday_w x _ _ w M.r0 M.r1 ⟨M.days⟩ ⟨weekday_date M.date⟩
end
set_option maxRecDepth 100000 in
theorem val_w {x y mo d h mi s : Int} (M : Moment' x y mo d h mi s) (pos : Nat) (hp : pos < 7) (w : World) :
    Calls Tryz.prog 58 #[.agg #[.int .u64 0, .int .i64 x, .pointer none], .int .i64 (pos : Int)] w fun e w' => e = .returned (.int .i64 (posV y mo d h mi s pos)) ∧ Below w.heap.size w w' := by
  have M := Aside0.mk M
  match pos, hp with
  | 0, _ =>
    go_enter Tryz.func58, Tryz.ntmps58
    go_wp2_with (go_at_call 81; refine (sec_m M.out _).mono ?_; rintro e w1 ⟨rfl, hb⟩)
    go_ret
    exact ⟨rfl, below_then (below_alloc (Below.refl _ _) _) (by simp) hb⟩
  | 1, _ =>
    go_enter Tryz.func58, Tryz.ntmps58
    go_wp2_with (go_at_call 82; refine (min_m M.out _).mono ?_; rintro e w1 ⟨rfl, hb⟩)
    go_ret
    exact ⟨rfl, below_then (below_alloc (Below.refl _ _) _) (by simp) hb⟩
  | 2, _ =>
    go_enter Tryz.func58, Tryz.ntmps58
    go_wp2_with (go_at_call 83; refine (hour_m M.out _).mono ?_; rintro e w1 ⟨rfl, hb⟩)
    go_ret
    exact ⟨rfl, below_then (below_alloc (Below.refl _ _) _) (by simp) hb⟩
  | 3, _ =>
    go_enter Tryz.func58, Tryz.ntmps58
    go_wp2_with (go_at_call 65; refine (day_m M.out _).mono ?_; rintro e w1 ⟨rfl, hb⟩)
    go_ret
    exact ⟨rfl, below_then (below_alloc (Below.refl _ _) _) (by simp) hb⟩
  | 4, _ =>
    go_enter Tryz.func58, Tryz.ntmps58
    go_wp2_with (go_at_call 62; refine (month_m M.out _).mono ?_; rintro e w1 ⟨rfl, hb⟩)
    go_ret
    exact ⟨rfl, below_then (below_alloc (Below.refl _ _) _) (by simp) hb⟩
  | 5, _ =>
    go_enter Tryz.func58, Tryz.ntmps58
    go_wp2_with (go_at_call 84; refine (weekday_m M.out _).mono ?_; rintro e w1 ⟨rfl, hb⟩)
    go_ret
    exact ⟨rfl, below_then (below_alloc (Below.refl _ _) _) (by simp) hb⟩
  | 6, _ =>
    go_enter Tryz.func58, Tryz.ntmps58
    go_wp2_with (go_at_call 61; refine (year_m M.out _).mono ?_; rintro e w1 ⟨rfl, hb⟩)
    go_ret
    exact ⟨rfl, below_then (below_alloc (Below.refl _ _) _) (by simp) hb⟩
theorem getRef_w (c : Nat) (x : Int) (w : World) (h0 : w.cell? ⟨c, 0, none⟩ = some (.int .u64 0)) (h1 : w.cell? ⟨c, 1, none⟩ = some (.int .i64 x)) (h2 : w.cell? ⟨c, 2, none⟩ = some (.pointer none)) :
    Calls Tryz.prog 57 #[.pointer (some ⟨c, 0, none⟩)] w fun e w' => e = .returned (.agg #[.int .u64 0, .int .i64 x, .pointer none]) ∧ Below w.heap.size w w' := by
  have hc : c < w.heap.size := World.block_lt_of_cell? w ⟨c, 0, none⟩ h0
  have hne : c ≠ w.heap.size := Nat.ne_of_lt hc
  have hne' : w.heap.size ≠ c := Nat.ne_of_gt hc
  go_enter Tryz.func57, Tryz.ntmps57
  go_wp2
  exact bodyPost_ret (v := .agg #[.int .u64 0, .int .i64 x, .pointer none]) (by simp [results, Tryz.results57, go_sem]) rfl ⟨rfl, (Below.refl _ _).alloc (Nat.le_refl _) _⟩
def SI (n : Nat) (y mo d h mi s : Int) (w' : World) : Prop := n + 1 < w'.heap.size ∧ w'.cell? ⟨n, 0, none⟩ = some (.int .i64 y) ∧ w'.cell? ⟨n, 1, none⟩ = some (.int .i64 mo) ∧ w'.cell? ⟨n, 2, none⟩ = some (.int .i64 d) ∧ w'.cell? ⟨n, 3, none⟩ = some (.int .i64 h) ∧ w'.cell? ⟨n, 4, none⟩ = some (.int .i64 mi) ∧ w'.cell? ⟨n, 5, none⟩ = some (.int .i64 s) ∧ w'.frozen? ⟨n + 1, 0, none⟩ = false ∧ w'.frozen? ⟨n + 1, 1, none⟩ = false ∧ w'.frozen? ⟨n + 1, 2, none⟩ = false ∧ (∃ v, w'.cell? ⟨n + 1, 0, none⟩ = some v) ∧ (∃ v, w'.cell? ⟨n + 1, 1, none⟩ = some v) ∧ (∃ v, w'.cell? ⟨n + 1, 2, none⟩ = some v)
theorem SI.below {n : Nat} {y mo d h mi s : Int} {a b : World} (hb : Below a.heap.size a b) (hS : SI n y mo d h mi s a) : SI n y mo d h mi s b := by
  obtain ⟨h0, h1, h2, h3, h4, h5, h6, h7, h8, h9, ⟨v0, k0⟩, ⟨v1, k1⟩, ⟨v2, k2⟩⟩ := hS
  exact ⟨Nat.lt_of_lt_of_le h0 hb.size, cell_after hb h1, cell_after hb h2, cell_after hb h3, cell_after hb h4, cell_after hb h5, cell_after hb h6, (hb.frozen h0).trans h7, (hb.frozen h0).trans h8, (hb.frozen h0).trans h9, ⟨v0, cell_after hb k0⟩, ⟨v1, cell_after hb k1⟩, ⟨v2, cell_after hb k2⟩⟩
theorem SI.cells {n : Nat} {y mo d h mi s : Int} {a : World} (hS : SI n y mo d h mi s a) : ∃ v0 v1 v2, a.cell? ⟨n + 1, 0, none⟩ = some v0 ∧ a.cell? ⟨n + 1, 1, none⟩ = some v1 ∧ a.cell? ⟨n + 1, 2, none⟩ = some v2 ∧ a.frozen? ⟨n + 1, 0, none⟩ = false ∧ a.frozen? ⟨n + 1, 1, none⟩ = false ∧ a.frozen? ⟨n + 1, 2, none⟩ = false := by
  obtain ⟨h0, h1, h2, h3, h4, h5, h6, h7, h8, h9, ⟨v0, k0⟩, ⟨v1, k1⟩, ⟨v2, k2⟩⟩ := hS
  exact ⟨v0, v1, v2, k0, k1, k2, h7, h8, h9⟩
theorem frozen_set {w : World} {a b : Addr} {v : Value} : (w.setCell a v).frozen? b = w.frozen? b := by simp
theorem set_some {w : World} {a b : Addr} {v u : Value} (h : w.cell? b = some u) : ∃ u', (w.setCell a v).cell? b = some u' := cell?_setCell_some h
theorem SI.set {n j : Nat} {v : Value} {y mo d h mi s : Int} {a : World} (hS : SI n y mo d h mi s a) : SI n y mo d h mi s (a.setCell ⟨n + 1, j, none⟩ v) := by
  obtain ⟨h0, h1, h2, h3, h4, h5, h6, h7, h8, h9, ⟨v0, k0⟩, ⟨v1, k1⟩, ⟨v2, k2⟩⟩ := hS
  exact ⟨by simpa using h0, (set_other (by simp)).trans h1, (set_other (by simp)).trans h2, (set_other (by simp)).trans h3, (set_other (by simp)).trans h4, (set_other (by simp)).trans h5, (set_other (by simp)).trans h6, frozen_set.trans h7, frozen_set.trans h8, frozen_set.trans h9, set_some k0, set_some k1, set_some k2⟩
theorem set3 {w4 : World} {g : Nat} {x0 x1 x2 a b c : Value} (h0 : w4.cell? ⟨g, 0, none⟩ = some x0) (h1 : w4.cell? ⟨g, 1, none⟩ = some x1) (h2 : w4.cell? ⟨g, 2, none⟩ = some x2) :
    (((w4.setCell ⟨g, 0, none⟩ a).setCell ⟨g, 1, none⟩ b).setCell ⟨g, 2, none⟩ c).cell? ⟨g, 0, none⟩ = some a ∧
    (((w4.setCell ⟨g, 0, none⟩ a).setCell ⟨g, 1, none⟩ b).setCell ⟨g, 2, none⟩ c).cell? ⟨g, 1, none⟩ = some b ∧
    (((w4.setCell ⟨g, 0, none⟩ a).setCell ⟨g, 1, none⟩ b).setCell ⟨g, 2, none⟩ c).cell? ⟨g, 2, none⟩ = some c := by
  have k0 : (w4.setCell ⟨g, 0, none⟩ a).cell? ⟨g, 0, none⟩ = some a := set_same h0
  have k1 : ((w4.setCell ⟨g, 0, none⟩ a).setCell ⟨g, 1, none⟩ b).cell? ⟨g, 0, none⟩ = some a := (set_other (by simp)).trans k0
  have k2 : ((w4.setCell ⟨g, 0, none⟩ a).setCell ⟨g, 1, none⟩ b).cell? ⟨g, 1, none⟩ = some b := set_same ((set_other (by simp)).trans h1)
  exact ⟨(set_other (by simp)).trans k1, (set_other (by simp)).trans k2, set_same ((set_other (by simp)).trans ((set_other (by simp)).trans h2))⟩
theorem utc_b (w : World) : Calls Tryz.prog 46 #[] w fun e w' => ∃ b, e = .returned (.pointer (some ⟨b, 0, none⟩)) ∧ w'.cell? ⟨b, 0, none⟩ = some (.bool true) ∧ w'.cell? ⟨b, 2, none⟩ = some (.slice none 0 0) ∧ Below w.heap.size w w' := by
  refine (utc_any w).mono ?_
  rintro e w' ⟨rfl, rfl⟩
  exact ⟨_, rfl, by simp [utcCells, go_sem], by simp [utcCells, go_sem], (Below.refl _ _).alloc (Nat.le_refl _) _⟩
theorem timeOf_w {y mo d h mi s : Int} (hd : DateOk y mo d) (hc : ClockOk h mi s) (w : World) :
    Calls Tryz.prog 32 #[.agg #[.int .i64 y, .int .i64 mo, .int .i64 d, .int .i64 h, .int .i64 mi, .int .i64 s]] w fun e w' => e = .returned (.agg #[.int .u64 0, .int .i64 (extOf y mo d h mi s), .pointer none]) ∧ Below w.heap.size w w' := by
  have hD : Aside0 (gotime_dateToAbsDays.f y mo d = some (absD y mo d)) := ⟨dateToAbs_eq y mo d hd.y0 hd.y1 hd.m0 hd.m1 hd.d0 (by have := hd.d1; have := (daysI_cases y mo hd.m0 hd.m1).1; omega)⟩
  have hr := Aside0.mk (absD_range hd)
  have hd := Aside0.mk hd
  have hc := Aside0.mk hc
  go_enter Tryz.func32, Tryz.ntmps32
  go_wp2
  go_region_held (fun w' => w.heap.size + 1 < w'.heap.size ∧ w'.cell? ⟨w.heap.size, 0, none⟩ = some (.int .i64 y) ∧ w'.cell? ⟨w.heap.size, 1, none⟩ = some (.int .i64 mo) ∧ w'.cell? ⟨w.heap.size, 2, none⟩ = some (.int .i64 d) ∧ w'.cell? ⟨w.heap.size, 3, none⟩ = some (.int .i64 h) ∧ w'.cell? ⟨w.heap.size, 4, none⟩ = some (.int .i64 mi) ∧ w'.cell? ⟨w.heap.size, 5, none⟩ = some (.int .i64 s) ∧ w'.frozen? ⟨w.heap.size + 1, 0, none⟩ = false ∧ w'.frozen? ⟨w.heap.size + 1, 1, none⟩ = false ∧ w'.frozen? ⟨w.heap.size + 1, 2, none⟩ = false ∧ (∃ v, w'.cell? ⟨w.heap.size + 1, 0, none⟩ = some v) ∧ (∃ v, w'.cell? ⟨w.heap.size + 1, 1, none⟩ = some v) ∧ (∃ v, w'.cell? ⟨w.heap.size + 1, 2, none⟩ = some v))
    (first | exact SI.below hb (by assumption) | exact SI.below hb1 (by assumption) | exact SI.set (SI.set (SI.set (by assumption))) | go_keep | (trace_state; fail)) (first | (go_at_call 46; refine (utc_b _).mono ?_; rintro e w1 ⟨b, rfl, hu0, hu2, hb1⟩) | (go_at_call 45; refine (date_w y mo d h mi s (absD y mo d) _ _ hd.out.m0 hd.out.m1 hc.out.h0 hc.out.h1 hc.out.m0 hc.out.m1 hc.out.s0 hc.out.s1 hD hr.out.1 hr.out.2 (by assumption) (by assumption)).mono ?_; rintro e w2 ⟨rfl, hb⟩; obtain ⟨v0, v1, v2, hk0, hk1, hk2, hf0, hf1, hf2⟩ := SI.cells (SI.below hb (by assumption))))
  rename_i hHeld
  clear hHeld
  obtain ⟨r0, r1, r2⟩ := set3 (a := .int .u64 0) (b := .int .i64 (absD y mo d * 86400 + (h * 3600 + mi * 60 + s) + -9223371966606163200)) (c := .pointer none) hk0 hk1 hk2
  go_wp2
  refine bodyPost_ret (v := .agg #[.int .u64 0, .int .i64 (absD y mo d * 86400 + (h * 3600 + mi * 60 + s) + -9223371966606163200), .pointer none]) (by simp [results, Tryz.results32, go_sem, r0, r1, r2]) rfl ⟨ret_time (by unfold extOf; omega), ?_⟩
  have b1 : Below w.heap.size w w1 := Below.trans (by repeat (first | exact Below.refl _ _ | apply below_alloc | apply below_drew1)) (hb1.mono (by simp; omega))
  have b2 : Below w.heap.size w w2 := b1.trans (hb.mono b1.size)
  exact ((b2.setCell (Nat.le_succ _) _).setCell (Nat.le_succ _) _).setCell (Nat.le_succ _) _
end Go.Proofs.YtkhgeonlohafgaaGreatDoor.Core
namespace Go.Proofs.YtkhgeonlohafgaaGreatDoor.Core
open Go.RowKit Go.Proofs.YtkhgeonlohafgaaGreatDoorW.PrintWords Go.Proofs.YtkhgeonlohafgaaGreatDoorW.PrintLast Go.Proofs.YtkhgeonlohafgaaGreatDoorW.PrintMore
attribute [local go_sem] max2_int min2_int max_two min_two max_three min_three max_four min_four   -- for this text's walks alone
set_option linter.unusedVariables false
set_option linter.unusedSimpArgs false
mutual
def gronx_zzContainsAny.l0 : Nat → ByteArray → ByteArray → Int → Option (Bool)
  | 0, _, _, _ => none
  | k + 1, x0, x1, x5 => if x5 < (x0.size : Int) then (gronx_zzContainsAny.l1 k x0 x1 x5 0) else (some false)
def gronx_zzContainsAny.l1 : Nat → ByteArray → ByteArray → Int → Int → Option (Bool)
  | 0, _, _, _, _ => none
  | k + 1, x0, x1, x5, x6 => if x6 < (x1.size : Int) then (if 0 ≤ x5 then (if x5 < (x0.size : Int) then (if 0 ≤ x6 then (if (bt x0 x5) = (bt x1 x6) then (some true) else (gronx_zzContainsAny.l1 k x0 x1 x5 (wrap64 (x6 + 1)))) else (none)) else (none)) else (none)) else (gronx_zzContainsAny.l0 k x0 x1 (wrap64 (x5 + 1)))
end
def gronx_zzContainsAny.f (k : Nat) (a0 : ByteArray) (a1 : ByteArray) : Option (Bool) := gronx_zzContainsAny.l0 k a0 a1 0
set_option maxHeartbeats 8000000 in
set_option maxRecDepth 100000 in
theorem gronx_zzContainsAny.calls (k : Nat) (a0 : ByteArray) (a1 : ByteArray) (r : Bool) (w : World) (h : gronx_zzContainsAny.f k a0 a1 = some r) :
    Calls Tryz.prog 55 #[.string a0, .string a1] w fun e w' => e = .returned (.bool r) ∧ Drawn0 w w' := by
  have H : (gronx_zzContainsAny.l0 k a0 a1 0) = some r := h
  clear h
  have H' := Aside0.mk H
  clear H
  go_enter Tryz.func55, Tryz.ntmps55
  go_wp2
  repeat (go_quiet (fail); try go_wp2)
  go_loopg [5] k (fun kq v5 w' => ∃ (x5_1 : Int), v5 = .int .i64 x5_1 ∧ Aside0 (gronx_zzContainsAny.l0 kq a0 a1 x5_1 = some r) ∧ Aside0 (kq ≤ k) ∧ Drawn0 w w')
  case atStart => exact ⟨(0), (by first | rfl | (simp; done) | (simp [*]; done)), H', ⟨Nat.le_refl _⟩, by repeat (first | exact Drawn0.refl _ | apply Drawn0.step)⟩
  case round =>
    clear H'
    try clear p2
    obtain ⟨x5_1, rfl, HA, HK1, ⟨m1, rfl⟩⟩ := hrel
    cases gk with
    | zero => exact absurd HA.out (by simp [gronx_zzContainsAny.l0])
    | succ k1 =>
      have H := HA.out
      clear HA
      simp only [gronx_zzContainsAny.l0] at H
      by_cases c3 : x5_1 < (a0.size : Int)
      · rw [if_pos c3] at H
        have c3b0 : decide (x5_1 < (a0.size : Int)) = true := decide_eq_true c3
        clear c3
        have H' := Aside0.mk H
        clear H
        go_wp2
        repeat (go_quiet (fail); try go_wp2)
        go_loopg [6] k1 (fun kq v6 w' => ∃ (x6_2 : Int), v6 = .int .i64 x6_2 ∧ Aside0 (gronx_zzContainsAny.l1 kq a0 a1 x5_1 x6_2 = some r) ∧ Aside0 (kq ≤ k1) ∧ Drawn0 w w')
        case atStart => exact ⟨(0), (by first | rfl | (simp; done) | (simp [*]; done)), H', ⟨Nat.le_refl _⟩, by repeat (first | exact Drawn0.refl _ | apply Drawn0.step)⟩
        case round =>
          clear H'
          try clear p2
          try clear c3
          try clear c3b0
          try clear p2
          obtain ⟨x6_2, rfl, HA, HK2, ⟨m2, rfl⟩⟩ := hrel
          cases gk with
          | zero => exact absurd HA.out (by simp [gronx_zzContainsAny.l1])
          | succ k2 =>
            have H := HA.out
            clear HA
            simp only [gronx_zzContainsAny.l1] at H
            by_cases c4 : x6_2 < (a1.size : Int)
            · rw [if_pos c4] at H
              have c4b0 : decide (x6_2 < (a1.size : Int)) = true := decide_eq_true c4
              clear c4
              by_cases c5 : 0 ≤ x5_1
              · rw [if_pos c5] at H
                have c5b0 : decide (0 ≤ x5_1) = true := decide_eq_true c5
                clear c5
                by_cases c6 : x5_1 < (a0.size : Int)
                · rw [if_pos c6] at H
                  have c6b0 : decide (x5_1 < (a0.size : Int)) = true := decide_eq_true c6
                  clear c6
                  by_cases c8 : 0 ≤ x6_2
                  · rw [if_pos c8] at H
                    have c8b0 : decide (0 ≤ x6_2) = true := decide_eq_true c8
                    clear c8
                    by_cases c10 : (bt a0 x5_1) = (bt a1 x6_2)
                    · rw [if_pos c10] at H
                      have c10b0 : ((bt a0 x5_1) == (bt a1 x6_2)) = true := beq_iff_eq.mpr c10
                      have c10b1 : ((bt a0 x5_1) != (bt a1 x6_2)) = false := bne_eq_false_iff_eq.mpr c10
                      clear c10
                      obtain rfl := Option.some.inj H
                      have p7 : 0 ≤ (x5_1 : Int) := of_decide_eq_true (by first | (with_reducible assumption) | assumption)
                      have q7 : x5_1 < (a0.size : Int) := of_decide_eq_true (by first | (with_reducible assumption) | assumption)
                      have hx7 := bt_at a0 x5_1
                      replace p7 := eq_true p7
                      replace q7 := eq_true q7
                      have p9 : 0 ≤ (x6_2 : Int) := of_decide_eq_true (by first | (with_reducible assumption) | assumption)
                      have q9 : x6_2 < (a1.size : Int) := of_decide_eq_true (by first | (with_reducible assumption) | assumption)
                      have hx9 := bt_at a1 x6_2
                      replace p9 := eq_true p9
                      replace q9 := eq_true q9
                      go_wp2
                      repeat (go_quiet (fail); try go_wp2)
                      go_ret
                      exact ⟨by first | rfl | (simp; done) | (simp [*]; done), by repeat (first | exact Drawn0.refl _ | apply Drawn0.step)⟩
                    · rw [if_neg c10] at H
                      have c10b0 : ((bt a0 x5_1) == (bt a1 x6_2)) = false := beq_eq_false_iff_ne.mpr c10
                      have c10b1 : ((bt a0 x5_1) != (bt a1 x6_2)) = true := bne_iff_ne.mpr c10
                      have H' := Aside0.mk H
                      clear H
                      have p7 : 0 ≤ (x5_1 : Int) := of_decide_eq_true (by first | (with_reducible assumption) | assumption)
                      have q7 : x5_1 < (a0.size : Int) := of_decide_eq_true (by first | (with_reducible assumption) | assumption)
                      have hx7 := bt_at a0 x5_1
                      replace p7 := eq_true p7
                      replace q7 := eq_true q7
                      have p9 : 0 ≤ (x6_2 : Int) := of_decide_eq_true (by first | (with_reducible assumption) | assumption)
                      have q9 : x6_2 < (a1.size : Int) := of_decide_eq_true (by first | (with_reducible assumption) | assumption)
                      have hx9 := bt_at a1 x6_2
                      replace p9 := eq_true p9
                      replace q9 := eq_true q9
                      go_wp2
                      repeat (go_quiet (fail); try go_wp2)
                      go_roundg k2
                      case measure => have := HK1.out; have := HK2.out; omega
                      case rel => exact ⟨(wrap64 (x6_2 + 1)), (by first | rfl | (simp; done) | (simp [*]; done)), H', ⟨by have := HK1.out; have := HK2.out; omega⟩, by repeat (first | exact Drawn0.refl _ | apply Drawn0.step)⟩
                  · rw [if_neg c8] at H
                    exact absurd H (by simp)
                · rw [if_neg c6] at H
                  exact absurd H (by simp)
              · rw [if_neg c5] at H
                exact absurd H (by simp)
            · rw [if_neg c4] at H
              have c4b0 : decide (x6_2 < (a1.size : Int)) = false := decide_eq_false c4
              clear c4
              have H' := Aside0.mk H
              clear H
              go_wp2
              repeat (go_quiet (fail); try go_wp2)
              go_roundg k2
              case measure => have := HK1.out; have := HK2.out; omega
              case rel => exact ⟨(wrap64 (x5_1 + 1)), (by first | rfl | (simp; done) | (simp [*]; done)), H', ⟨by have := HK1.out; have := HK2.out; omega⟩, by repeat (first | exact Drawn0.refl _ | apply Drawn0.step)⟩
      · rw [if_neg c3] at H
        have c3b0 : decide (x5_1 < (a0.size : Int)) = false := decide_eq_false c3
        clear c3
        obtain rfl := Option.some.inj H
        go_wp2
        repeat (go_quiet (fail); try go_wp2)
        go_ret
        exact ⟨by first | rfl | (simp; done) | (simp [*]; done), by repeat (first | exact Drawn0.refl _ | apply Drawn0.step)⟩
end Go.Proofs.YtkhgeonlohafgaaGreatDoor.Core
namespace Go.Proofs.YtkhgeonlohafgaaGreatDoor.Core
open Go.RowKit Go.Proofs.YtkhgeonlohafgaaGreatDoorW.PrintWords
def ErrV (er : Bool) (ev : Value) : Prop := (er = false ∧ ev = .nilIface) ∨ (er = true ∧ ∃ t v, ev = .iface t v)
def OffC (c : Nat) (val : Int) (pos : Nat) (o : ByteArray) (b er : Bool) : Prop := ∀ w, Calls Tryz.prog 60 #[.pointer (some ⟨c, 0, none⟩), .string o, .int .i64 val, .int .i64 (pos : Int)] w fun e w' => ∃ ev, e = .returned (.tuple #[.bool b, ev]) ∧ ErrV er ev ∧ Below w.heap.size w w'
theorem ErrV.nil {ev : Value} (h : ErrV false ev) : ev = .nilIface := by rcases h with ⟨_, h⟩ | ⟨h, _⟩ <;> simp_all
theorem ErrV.err {ev : Value} (h : ErrV true ev) : ∃ t v, ev = .iface t v := by rcases h with ⟨h, _⟩ | ⟨_, h⟩ <;> simp_all
def DueL (c : Nat) (val : Int) (pos : Nat) : List ByteArray → Bool → Bool → Prop
  | [], b, er => b = false ∧ er = false
  | o :: t, b, er => ∃ b1 e1, OffC c val pos o b1 e1 ∧ (if b1 = true ∨ e1 = true then b = b1 ∧ er = e1 else DueL c val pos t b er)
theorem rdOf_nat (xs : List ByteArray) (j : Nat) (h : j < xs.length) : rdOf ByteArray.empty xs (j : Int) = xs[j] := by simp [rdOf, h]
def SX (n : Nat) (x : Int) (w' : World) : Prop := n < w'.heap.size ∧ w'.cell? ⟨n, 0, none⟩ = some (.int .u64 0) ∧ w'.cell? ⟨n, 1, none⟩ = some (.int .i64 x) ∧ w'.cell? ⟨n, 2, none⟩ = some (.pointer none)
theorem SX.below {n : Nat} {x : Int} {a b : World} (hb : Below a.heap.size a b) (hS : SX n x a) : SX n x b := ⟨Nat.lt_of_lt_of_le hS.1 hb.size, cell_after hb hS.2.1, cell_after hb hS.2.2.1, cell_after hb hS.2.2.2⟩
set_option maxRecDepth 100000 in
theorem ck_other (c : Nat) {x y mo d h mi s : Int} (M : Moment' x y mo d h mi s) (seg : ByteArray) (pos : Nat) (hp : pos < 7) (h3 : pos ≠ 3) (h5 : pos ≠ 5) (k : Nat) (offs : List ByteArray) (hs : gronx_zzSplit.f k seg ⟨#[44]⟩ = some offs) (hn : offs.length < 1000000)
    (b er : Bool) (hD : DueL c (posV y mo d h mi s pos) pos offs b er) (w : World) (hc0 : w.cell? ⟨c, 0, none⟩ = some (.int .u64 0)) (hc1 : w.cell? ⟨c, 1, none⟩ = some (.int .i64 x)) (hc2 : w.cell? ⟨c, 2, none⟩ = some (.pointer none)) :
    Calls Tryz.prog 44 #[.pointer (some ⟨c, 0, none⟩), .string seg, .int .i64 (pos : Int)] w fun e w' => ∃ ev, e = .returned (.tuple #[.bool b, ev]) ∧ ErrV er ev ∧ Below w.heap.size w w' := by
  have e3 : ((pos : Int) == 3) = false := by simp; omega
  have e5 : ((pos : Int) == 5) = false := by simp; omega
  have M := Aside0.mk M
  have hs := Aside0.mk hs
  have hD := Aside0.mk hD
  have hp := Aside0.mk hp
  go_enter Tryz.func44, Tryz.ntmps44
  go_wp2_with (go_at_call 57; refine (getRef_w c x _ hc0 hc1 hc2).mono ?_; rintro e w1 ⟨rfl, hb1⟩)
  go_region_held (fun w' => w1.heap.size < w'.heap.size ∧ w'.cell? ⟨w1.heap.size, 0, none⟩ = some (.int .u64 0) ∧ w'.cell? ⟨w1.heap.size, 1, none⟩ = some (.int .i64 x) ∧ w'.cell? ⟨w1.heap.size, 2, none⟩ = some (.pointer none))
    (first | exact SX.below hb2 (by assumption) | exact SX.below hb3 (by assumption) | go_keep | (trace_state; fail)) (first | (go_at_call 58; refine (val_w M.out pos hp.out _).mono ?_; rintro e w2 ⟨rfl, hb2⟩) | (go_at_call 59; refine (location_any x _).mono ?_; rintro e w3 ⟨bl, rfl, hlo, hlu, hb3⟩))
  rename_i hHeld
  clear hHeld
  have HB : Below w.heap.size w w3 := (below_step (below_step (below_drew1 (below_alloc hb1 _)) hb2) hb3)
  have HB := Aside0.mk HB
  clear hb1 hb2 hb3 hlo hlu hc0 hc1 hc2
  go_wp2_with (go_at_call 54; refine (gronx_zzSplit.calls k seg ⟨#[44]⟩ offs _ hs.out).mono ?_; rintro e w4 ⟨v0, rfl, hR, hb4⟩; obtain ⟨A, cc, rfl⟩ := Kd.R_slice hR)
  have HR := Aside0.mk (Kd.R_reads' hR).2.2
  have HB4 := Aside0.mk (below_step HB.out hb4)
  clear hR hb4 HB
  go_loopg [31] offs.length (fun kq v31 w' => ∃ (j : Nat), v31 = .int .i64 (j : Int) ∧ Aside0 (DueL c (posV y mo d h mi s pos) pos (offs.drop j) b er) ∧ Aside0 (kq + j = offs.length) ∧ Aside0 (Below w4.heap.size w4 w'))
  case atStart => exact ⟨0, rfl, hD, ⟨rfl⟩, ⟨by repeat (first | exact Below.refl _ _ | apply below_drew1 | apply pw_below_drewN)⟩⟩
  case round =>
    clear hD
    obtain ⟨j, rfl, HD, HK, HW⟩ := hrel
    by_cases hj : j < offs.length
    · have q : ((j : Int) < (offs.length : Int)) := by omega
      have p0 : 0 ≤ (j : Int) := by omega
      have q0 : decide ((j : Int) < (offs.length : Int)) = true := decide_eq_true q
      obtain ⟨ad, rfl, hx⟩ := Kd.at_string HR.out (j : Int) p0 q
      replace hx := cell_after HW.out hx
      rw [rdOf_nat _ _ hj, Int.toNat_natCast] at hx
      have HD' := HD.out
      rw [List.drop_eq_getElem_cons hj] at HD'
      obtain ⟨b1, e1, hoff, hif⟩ := HD'
      have hoff := Aside0.mk hoff
      have hif := Aside0.mk hif
      clear HD
      have hb : ∀ W, Below W.heap.size W W := fun W => Below.refl _ _
      cases b1 with
      | true =>
        obtain ⟨rfl, rfl⟩ : b = true ∧ er = e1 := by have := hif.out; simpa using this
        go_wp2_with (go_at_call 60; refine (hoff.out _).mono ?_; rintro e w5 ⟨ev, rfl, hev, hb5⟩)
        go_ret2
        exact ⟨ev, rfl, hev, below_step (below_step HB4.out HW.out) hb5⟩
      | false =>
        cases e1 with
        | true =>
          obtain ⟨rfl, rfl⟩ : b = false ∧ er = true := by have := hif.out; simpa using this
          go_wp2_with (go_at_call 60; refine (hoff.out _).mono ?_; rintro e w5 ⟨ev, rfl, hev, hb5⟩; obtain ⟨te, ve, rfl⟩ := ErrV.err hev)
          go_ret2
          exact ⟨_, rfl, hev, below_step (below_step HB4.out HW.out) hb5⟩
        | false =>
          have hr : DueL c (posV y mo d h mi s pos) pos (offs.drop (j + 1)) b er := by have := hif.out; simpa using this
          have hr := Aside0.mk hr
          go_wp2_with (go_at_call 60; refine (hoff.out _).mono ?_; rintro e w5 ⟨ev, rfl, hev, hb5⟩; obtain rfl := ErrV.nil hev)
          go_roundg (gk - 1)
          case measure => have := HK.out; omega
          case rel => exact ⟨j + 1, by simp, hr, ⟨by have := HK.out; omega⟩, ⟨by repeat (first | exact below_step HW.out hb5 | apply below_drew1 | apply pw_below_drewN)⟩⟩
    · have q0 : decide ((j : Int) < (offs.length : Int)) = false := decide_eq_false (by omega)
      have HD' := HD.out
      rw [List.drop_eq_nil_of_le (by omega)] at HD'
      obtain ⟨rfl, rfl⟩ := HD'
      go_wp2
      go_ret2
      exact ⟨_, rfl, .inl ⟨rfl, rfl⟩, below_step HB4.out HW.out⟩
end Go.Proofs.YtkhgeonlohafgaaGreatDoor.Core
namespace Go.Proofs.YtkhgeonlohafgaaGreatDoor.Core
open Go.RowKit Go.Proofs.YtkhgeonlohafgaaGreatDoorW.PrintWords
set_option maxRecDepth 100000 in
set_option maxHeartbeats 800000 in
theorem offStar_w (c : Nat) (val : Int) (pos : Nat) : OffC c val pos ⟨#[42]⟩ true false := by
  intro w
  go_enter Tryz.func60, Tryz.ntmps60
  go_wp2
  go_ret2
  exact ⟨_, rfl, .inl ⟨rfl, rfl⟩, by repeat (first | exact Below.refl _ _ | apply pw_below_drewN)⟩
set_option maxRecDepth 100000 in
set_option maxHeartbeats 800000 in
theorem offNum_wd_eq (c : Nat) (o : ByteArray) (k : Nat) (val : Int) (t : List Int) (pos : Nat) (s1 : o.toList ≠ ([42] : List UInt8)) (s2 : o.toList ≠ ([63] : List UInt8)) (hb : gronx_boundsByPos.f k (pos : Int) = some t) (ht : t.length = 2) (n : Int) (h1 : gronx_zzContains.f k o ⟨#[47]⟩ = some false) (h2 : gronx_zzContains.f k o ⟨#[45]⟩ = some false) (ha : strconv_Atoi.f o = some (n, none)) (hlo : rd t 0 ≤ n) (hhi : n ≤ rd t 1) (hp : pos = 5) (hn : n = val)  : OffC c val pos o true false := by
  intro w
  have hb := Aside0.mk hb
  have q1 : (o.toList == ([42] : List UInt8)) = false := beq_eq_false_iff_ne.mpr s1
  have q2 : (o.toList == ([63] : List UInt8)) = false := beq_eq_false_iff_ne.mpr s2
  have h1 := Aside0.mk h1
  have h2 := Aside0.mk h2
  have ha := Aside0.mk ha
  have qi0 : (0 < t.length) = True := eq_true (by omega)
  have qi1 : (0 < (t.length : Int)) = True := eq_true (by omega)
  have qi2 : (1 < t.length) = True := eq_true (by omega)
  have qi3 : (1 < (t.length : Int)) = True := eq_true (by omega)
  have g0 : ∃ lo, rd t 0 = lo := ⟨_, rfl⟩
  have g1 : ∃ hi, rd t 1 = hi := ⟨_, rfl⟩
  obtain ⟨lo, g0⟩ := g0
  obtain ⟨hi, g1⟩ := g1
  rw [g0] at hlo
  rw [g1] at hhi
  have n4 : ¬ n < lo := by omega
  have n5 : ¬ hi < n := by omega
  have e5 : ((pos : Int) == 5) = true := by simp; omega
  clear hp
  have f1 : (n == val) = true := by simp [hn]
  clear hn
  go_enter Tryz.func60, Tryz.ntmps60
  go_wp2_with (first | (go_at_call 85; refine (gronx_boundsByPos.calls k _ _ _ hb.out).mono ?_; rintro e w1 ⟨v0, rfl, hR, hb1⟩; obtain ⟨A, cc, rfl⟩ := Kd.R_slice hR) | (go_at_call 56; refine (gronx_zzContains.calls k _ _ _ _ h1.out).mono ?_; rintro e wz ⟨rfl, ⟨nd, rfl⟩⟩; clear h1) | (go_at_call 56; refine (gronx_zzContains.calls k _ _ _ _ h2.out).mono ?_; rintro e wz ⟨rfl, ⟨nd2, rfl⟩⟩; clear h2) | (go_at_call 88; refine (strconv_Atoi.calls _ _ _ _ ha.out).mono ?_; rintro e w2 ⟨rfl, hb2⟩; rw [errW_none]; obtain ⟨ad, rfl, y0, y1⟩ := two_int (Kd.R_reads' hR).2.2 rfl (by omega); have x0 := cell_after (by repeat (first | exact hb2 | exact below_step (by repeat (first | exact Below.refl _ _ | apply pw_below_drewN)) hb2)) y0; rw [g0] at x0; have x1 := cell_after (by repeat (first | exact hb2 | exact below_step (by repeat (first | exact Below.refl _ _ | apply pw_below_drewN)) hb2)) y1; rw [g1] at x1))
  go_ret2
  exact ⟨_, rfl, .inl ⟨rfl, rfl⟩, below_step (by repeat (first | exact hb1 | apply pw_below_drewN)) hb2⟩
set_option maxRecDepth 100000 in
set_option maxHeartbeats 800000 in
theorem offNum_wd_ne (c : Nat) (o : ByteArray) (k : Nat) (val : Int) (t : List Int) (pos : Nat) (s1 : o.toList ≠ ([42] : List UInt8)) (s2 : o.toList ≠ ([63] : List UInt8)) (hb : gronx_boundsByPos.f k (pos : Int) = some t) (ht : t.length = 2) (n : Int) (h1 : gronx_zzContains.f k o ⟨#[47]⟩ = some false) (h2 : gronx_zzContains.f k o ⟨#[45]⟩ = some false) (ha : strconv_Atoi.f o = some (n, none)) (hlo : rd t 0 ≤ n) (hhi : n ≤ rd t 1) (hp : pos = 5) (n6 : n ≤ 6) (hn : n ≠ val)  : OffC c val pos o false false := by
  intro w
  have hb := Aside0.mk hb
  have q1 : (o.toList == ([42] : List UInt8)) = false := beq_eq_false_iff_ne.mpr s1
  have q2 : (o.toList == ([63] : List UInt8)) = false := beq_eq_false_iff_ne.mpr s2
  have h1 := Aside0.mk h1
  have h2 := Aside0.mk h2
  have ha := Aside0.mk ha
  have qi0 : (0 < t.length) = True := eq_true (by omega)
  have qi1 : (0 < (t.length : Int)) = True := eq_true (by omega)
  have qi2 : (1 < t.length) = True := eq_true (by omega)
  have qi3 : (1 < (t.length : Int)) = True := eq_true (by omega)
  have g0 : ∃ lo, rd t 0 = lo := ⟨_, rfl⟩
  have g1 : ∃ hi, rd t 1 = hi := ⟨_, rfl⟩
  obtain ⟨lo, g0⟩ := g0
  obtain ⟨hi, g1⟩ := g1
  rw [g0] at hlo
  rw [g1] at hhi
  have n4 : ¬ n < lo := by omega
  have n5 : ¬ hi < n := by omega
  have e5 : ((pos : Int) == 5) = true := by simp; omega
  clear hp
  have f1 : (n == val) = false := by simp [hn]
  have f2 : (n == 7) = false := by simp; omega
  have f3 : n ≠ 7 := by omega
  go_enter Tryz.func60, Tryz.ntmps60
  go_wp2_with (first | (go_at_call 85; refine (gronx_boundsByPos.calls k _ _ _ hb.out).mono ?_; rintro e w1 ⟨v0, rfl, hR, hb1⟩; obtain ⟨A, cc, rfl⟩ := Kd.R_slice hR) | (go_at_call 56; refine (gronx_zzContains.calls k _ _ _ _ h1.out).mono ?_; rintro e wz ⟨rfl, ⟨nd, rfl⟩⟩; clear h1) | (go_at_call 56; refine (gronx_zzContains.calls k _ _ _ _ h2.out).mono ?_; rintro e wz ⟨rfl, ⟨nd2, rfl⟩⟩; clear h2) | (go_at_call 88; refine (strconv_Atoi.calls _ _ _ _ ha.out).mono ?_; rintro e w2 ⟨rfl, hb2⟩; rw [errW_none]; obtain ⟨ad, rfl, y0, y1⟩ := two_int (Kd.R_reads' hR).2.2 rfl (by omega); have x0 := cell_after (by repeat (first | exact hb2 | exact below_step (by repeat (first | exact Below.refl _ _ | apply pw_below_drewN)) hb2)) y0; rw [g0] at x0; have x1 := cell_after (by repeat (first | exact hb2 | exact below_step (by repeat (first | exact Below.refl _ _ | apply pw_below_drewN)) hb2)) y1; rw [g1] at x1))
  go_ret2
  exact ⟨_, rfl, .inl ⟨rfl, rfl⟩, below_step (by repeat (first | exact hb1 | apply pw_below_drewN)) hb2⟩
set_option maxRecDepth 100000 in
set_option maxHeartbeats 800000 in
theorem offNum_zz (c : Nat) (o : ByteArray) (k : Nat) (val : Int) (t : List Int) (pos : Nat) (s1 : o.toList ≠ ([42] : List UInt8)) (s2 : o.toList ≠ ([63] : List UInt8)) (hb : gronx_boundsByPos.f k (pos : Int) = some t) (ht : t.length = 2) (n : Int) (h1 : gronx_zzContains.f k o ⟨#[47]⟩ = some false) (h2 : gronx_zzContains.f k o ⟨#[45]⟩ = some false) (ha : strconv_Atoi.f o = some (n, none)) (hlo : rd t 0 ≤ n) (hhi : n ≤ rd t 1) (hp : pos ≠ 5) (hv : val = 0) (hn : n = 0)  : OffC c val pos o true false := by
  intro w
  have hb := Aside0.mk hb
  have q1 : (o.toList == ([42] : List UInt8)) = false := beq_eq_false_iff_ne.mpr s1
  have q2 : (o.toList == ([63] : List UInt8)) = false := beq_eq_false_iff_ne.mpr s2
  have h1 := Aside0.mk h1
  have h2 := Aside0.mk h2
  have ha := Aside0.mk ha
  have qi0 : (0 < t.length) = True := eq_true (by omega)
  have qi1 : (0 < (t.length : Int)) = True := eq_true (by omega)
  have qi2 : (1 < t.length) = True := eq_true (by omega)
  have qi3 : (1 < (t.length : Int)) = True := eq_true (by omega)
  have g0 : ∃ lo, rd t 0 = lo := ⟨_, rfl⟩
  have g1 : ∃ hi, rd t 1 = hi := ⟨_, rfl⟩
  obtain ⟨lo, g0⟩ := g0
  obtain ⟨hi, g1⟩ := g1
  rw [g0] at hlo
  rw [g1] at hhi
  have n4 : ¬ n < lo := by omega
  have n5 : ¬ hi < n := by omega
  have e5 : ((pos : Int) == 5) = false := by simp; omega
  clear hp
  have f1 : (val == 0) = true := by simp [hv]
  have f2 : (n == 0) = true := by simp [hn]
  clear hv hn
  go_enter Tryz.func60, Tryz.ntmps60
  go_wp2_with (first | (go_at_call 85; refine (gronx_boundsByPos.calls k _ _ _ hb.out).mono ?_; rintro e w1 ⟨v0, rfl, hR, hb1⟩; obtain ⟨A, cc, rfl⟩ := Kd.R_slice hR) | (go_at_call 56; refine (gronx_zzContains.calls k _ _ _ _ h1.out).mono ?_; rintro e wz ⟨rfl, ⟨nd, rfl⟩⟩; clear h1) | (go_at_call 56; refine (gronx_zzContains.calls k _ _ _ _ h2.out).mono ?_; rintro e wz ⟨rfl, ⟨nd2, rfl⟩⟩; clear h2) | (go_at_call 88; refine (strconv_Atoi.calls _ _ _ _ ha.out).mono ?_; rintro e w2 ⟨rfl, hb2⟩; rw [errW_none]; obtain ⟨ad, rfl, y0, y1⟩ := two_int (Kd.R_reads' hR).2.2 rfl (by omega); have x0 := cell_after (by repeat (first | exact hb2 | exact below_step (by repeat (first | exact Below.refl _ _ | apply pw_below_drewN)) hb2)) y0; rw [g0] at x0; have x1 := cell_after (by repeat (first | exact hb2 | exact below_step (by repeat (first | exact Below.refl _ _ | apply pw_below_drewN)) hb2)) y1; rw [g1] at x1))
  go_ret2
  exact ⟨_, rfl, .inl ⟨rfl, rfl⟩, below_step (by repeat (first | exact hb1 | apply pw_below_drewN)) hb2⟩
set_option maxRecDepth 100000 in
set_option maxHeartbeats 800000 in
theorem offNum_zn (c : Nat) (o : ByteArray) (k : Nat) (val : Int) (t : List Int) (pos : Nat) (s1 : o.toList ≠ ([42] : List UInt8)) (s2 : o.toList ≠ ([63] : List UInt8)) (hb : gronx_boundsByPos.f k (pos : Int) = some t) (ht : t.length = 2) (n : Int) (h1 : gronx_zzContains.f k o ⟨#[47]⟩ = some false) (h2 : gronx_zzContains.f k o ⟨#[45]⟩ = some false) (ha : strconv_Atoi.f o = some (n, none)) (hlo : rd t 0 ≤ n) (hhi : n ≤ rd t 1) (hp : pos ≠ 5) (hv : val = 0) (hn : n ≠ 0)  : OffC c val pos o false false := by
  intro w
  have hb := Aside0.mk hb
  have q1 : (o.toList == ([42] : List UInt8)) = false := beq_eq_false_iff_ne.mpr s1
  have q2 : (o.toList == ([63] : List UInt8)) = false := beq_eq_false_iff_ne.mpr s2
  have h1 := Aside0.mk h1
  have h2 := Aside0.mk h2
  have ha := Aside0.mk ha
  have qi0 : (0 < t.length) = True := eq_true (by omega)
  have qi1 : (0 < (t.length : Int)) = True := eq_true (by omega)
  have qi2 : (1 < t.length) = True := eq_true (by omega)
  have qi3 : (1 < (t.length : Int)) = True := eq_true (by omega)
  have g0 : ∃ lo, rd t 0 = lo := ⟨_, rfl⟩
  have g1 : ∃ hi, rd t 1 = hi := ⟨_, rfl⟩
  obtain ⟨lo, g0⟩ := g0
  obtain ⟨hi, g1⟩ := g1
  rw [g0] at hlo
  rw [g1] at hhi
  have n4 : ¬ n < lo := by omega
  have n5 : ¬ hi < n := by omega
  have e5 : ((pos : Int) == 5) = false := by simp; omega
  clear hp
  have f1 : (val == 0) = true := by simp [hv]
  have f2 : (n == 0) = false := by simp [hn]
  clear hv
  go_enter Tryz.func60, Tryz.ntmps60
  go_wp2_with (first | (go_at_call 85; refine (gronx_boundsByPos.calls k _ _ _ hb.out).mono ?_; rintro e w1 ⟨v0, rfl, hR, hb1⟩; obtain ⟨A, cc, rfl⟩ := Kd.R_slice hR) | (go_at_call 56; refine (gronx_zzContains.calls k _ _ _ _ h1.out).mono ?_; rintro e wz ⟨rfl, ⟨nd, rfl⟩⟩; clear h1) | (go_at_call 56; refine (gronx_zzContains.calls k _ _ _ _ h2.out).mono ?_; rintro e wz ⟨rfl, ⟨nd2, rfl⟩⟩; clear h2) | (go_at_call 88; refine (strconv_Atoi.calls _ _ _ _ ha.out).mono ?_; rintro e w2 ⟨rfl, hb2⟩; rw [errW_none]; obtain ⟨ad, rfl, y0, y1⟩ := two_int (Kd.R_reads' hR).2.2 rfl (by omega); have x0 := cell_after (by repeat (first | exact hb2 | exact below_step (by repeat (first | exact Below.refl _ _ | apply pw_below_drewN)) hb2)) y0; rw [g0] at x0; have x1 := cell_after (by repeat (first | exact hb2 | exact below_step (by repeat (first | exact Below.refl _ _ | apply pw_below_drewN)) hb2)) y1; rw [g1] at x1))
  go_ret2
  exact ⟨_, rfl, .inl ⟨rfl, rfl⟩, below_step (by repeat (first | exact hb1 | apply pw_below_drewN)) hb2⟩
set_option maxRecDepth 100000 in
set_option maxHeartbeats 800000 in
theorem offNum_nz (c : Nat) (o : ByteArray) (k : Nat) (val : Int) (t : List Int) (pos : Nat) (s1 : o.toList ≠ ([42] : List UInt8)) (s2 : o.toList ≠ ([63] : List UInt8)) (hb : gronx_boundsByPos.f k (pos : Int) = some t) (ht : t.length = 2) (n : Int) (h1 : gronx_zzContains.f k o ⟨#[47]⟩ = some false) (h2 : gronx_zzContains.f k o ⟨#[45]⟩ = some false) (ha : strconv_Atoi.f o = some (n, none)) (hlo : rd t 0 ≤ n) (hhi : n ≤ rd t 1) (hp : pos ≠ 5) (hv : val ≠ 0) (hn : n = 0)  : OffC c val pos o false false := by
  intro w
  have hb := Aside0.mk hb
  have q1 : (o.toList == ([42] : List UInt8)) = false := beq_eq_false_iff_ne.mpr s1
  have q2 : (o.toList == ([63] : List UInt8)) = false := beq_eq_false_iff_ne.mpr s2
  have h1 := Aside0.mk h1
  have h2 := Aside0.mk h2
  have ha := Aside0.mk ha
  have qi0 : (0 < t.length) = True := eq_true (by omega)
  have qi1 : (0 < (t.length : Int)) = True := eq_true (by omega)
  have qi2 : (1 < t.length) = True := eq_true (by omega)
  have qi3 : (1 < (t.length : Int)) = True := eq_true (by omega)
  have g0 : ∃ lo, rd t 0 = lo := ⟨_, rfl⟩
  have g1 : ∃ hi, rd t 1 = hi := ⟨_, rfl⟩
  obtain ⟨lo, g0⟩ := g0
  obtain ⟨hi, g1⟩ := g1
  rw [g0] at hlo
  rw [g1] at hhi
  have n4 : ¬ n < lo := by omega
  have n5 : ¬ hi < n := by omega
  have e5 : ((pos : Int) == 5) = false := by simp; omega
  clear hp
  have f1 : (val == 0) = false := by simp [hv]
  have f2 : (n == 0) = true := by simp [hn]
  clear hn
  go_enter Tryz.func60, Tryz.ntmps60
  go_wp2_with (first | (go_at_call 85; refine (gronx_boundsByPos.calls k _ _ _ hb.out).mono ?_; rintro e w1 ⟨v0, rfl, hR, hb1⟩; obtain ⟨A, cc, rfl⟩ := Kd.R_slice hR) | (go_at_call 56; refine (gronx_zzContains.calls k _ _ _ _ h1.out).mono ?_; rintro e wz ⟨rfl, ⟨nd, rfl⟩⟩; clear h1) | (go_at_call 56; refine (gronx_zzContains.calls k _ _ _ _ h2.out).mono ?_; rintro e wz ⟨rfl, ⟨nd2, rfl⟩⟩; clear h2) | (go_at_call 88; refine (strconv_Atoi.calls _ _ _ _ ha.out).mono ?_; rintro e w2 ⟨rfl, hb2⟩; rw [errW_none]; obtain ⟨ad, rfl, y0, y1⟩ := two_int (Kd.R_reads' hR).2.2 rfl (by omega); have x0 := cell_after (by repeat (first | exact hb2 | exact below_step (by repeat (first | exact Below.refl _ _ | apply pw_below_drewN)) hb2)) y0; rw [g0] at x0; have x1 := cell_after (by repeat (first | exact hb2 | exact below_step (by repeat (first | exact Below.refl _ _ | apply pw_below_drewN)) hb2)) y1; rw [g1] at x1))
  go_ret2
  exact ⟨_, rfl, .inl ⟨rfl, rfl⟩, below_step (by repeat (first | exact hb1 | apply pw_below_drewN)) hb2⟩
set_option maxRecDepth 100000 in
set_option maxHeartbeats 800000 in
theorem offNum_eq (c : Nat) (o : ByteArray) (k : Nat) (val : Int) (t : List Int) (pos : Nat) (s1 : o.toList ≠ ([42] : List UInt8)) (s2 : o.toList ≠ ([63] : List UInt8)) (hb : gronx_boundsByPos.f k (pos : Int) = some t) (ht : t.length = 2) (n : Int) (h1 : gronx_zzContains.f k o ⟨#[47]⟩ = some false) (h2 : gronx_zzContains.f k o ⟨#[45]⟩ = some false) (ha : strconv_Atoi.f o = some (n, none)) (hlo : rd t 0 ≤ n) (hhi : n ≤ rd t 1) (hp : pos ≠ 5) (hv : val ≠ 0) (hn0 : n ≠ 0) (hn : n = val)  : OffC c val pos o true false := by
  intro w
  have hb := Aside0.mk hb
  have q1 : (o.toList == ([42] : List UInt8)) = false := beq_eq_false_iff_ne.mpr s1
  have q2 : (o.toList == ([63] : List UInt8)) = false := beq_eq_false_iff_ne.mpr s2
  have h1 := Aside0.mk h1
  have h2 := Aside0.mk h2
  have ha := Aside0.mk ha
  have qi0 : (0 < t.length) = True := eq_true (by omega)
  have qi1 : (0 < (t.length : Int)) = True := eq_true (by omega)
  have qi2 : (1 < t.length) = True := eq_true (by omega)
  have qi3 : (1 < (t.length : Int)) = True := eq_true (by omega)
  have g0 : ∃ lo, rd t 0 = lo := ⟨_, rfl⟩
  have g1 : ∃ hi, rd t 1 = hi := ⟨_, rfl⟩
  obtain ⟨lo, g0⟩ := g0
  obtain ⟨hi, g1⟩ := g1
  rw [g0] at hlo
  rw [g1] at hhi
  have n4 : ¬ n < lo := by omega
  have n5 : ¬ hi < n := by omega
  have e5 : ((pos : Int) == 5) = false := by simp; omega
  clear hp
  have f1 : (val == 0) = false := by simp [hv]
  have f2 : (n == 0) = false := by simp [hn0]
  have f3 : (n == val) = true := by simp [hn]
  clear hn
  go_enter Tryz.func60, Tryz.ntmps60
  go_wp2_with (first | (go_at_call 85; refine (gronx_boundsByPos.calls k _ _ _ hb.out).mono ?_; rintro e w1 ⟨v0, rfl, hR, hb1⟩; obtain ⟨A, cc, rfl⟩ := Kd.R_slice hR) | (go_at_call 56; refine (gronx_zzContains.calls k _ _ _ _ h1.out).mono ?_; rintro e wz ⟨rfl, ⟨nd, rfl⟩⟩; clear h1) | (go_at_call 56; refine (gronx_zzContains.calls k _ _ _ _ h2.out).mono ?_; rintro e wz ⟨rfl, ⟨nd2, rfl⟩⟩; clear h2) | (go_at_call 88; refine (strconv_Atoi.calls _ _ _ _ ha.out).mono ?_; rintro e w2 ⟨rfl, hb2⟩; rw [errW_none]; obtain ⟨ad, rfl, y0, y1⟩ := two_int (Kd.R_reads' hR).2.2 rfl (by omega); have x0 := cell_after (by repeat (first | exact hb2 | exact below_step (by repeat (first | exact Below.refl _ _ | apply pw_below_drewN)) hb2)) y0; rw [g0] at x0; have x1 := cell_after (by repeat (first | exact hb2 | exact below_step (by repeat (first | exact Below.refl _ _ | apply pw_below_drewN)) hb2)) y1; rw [g1] at x1))
  go_ret2
  exact ⟨_, rfl, .inl ⟨rfl, rfl⟩, below_step (by repeat (first | exact hb1 | apply pw_below_drewN)) hb2⟩
set_option maxRecDepth 100000 in
set_option maxHeartbeats 800000 in
theorem offNum_ne (c : Nat) (o : ByteArray) (k : Nat) (val : Int) (t : List Int) (pos : Nat) (s1 : o.toList ≠ ([42] : List UInt8)) (s2 : o.toList ≠ ([63] : List UInt8)) (hb : gronx_boundsByPos.f k (pos : Int) = some t) (ht : t.length = 2) (n : Int) (h1 : gronx_zzContains.f k o ⟨#[47]⟩ = some false) (h2 : gronx_zzContains.f k o ⟨#[45]⟩ = some false) (ha : strconv_Atoi.f o = some (n, none)) (hlo : rd t 0 ≤ n) (hhi : n ≤ rd t 1) (hp : pos ≠ 5) (hv : val ≠ 0) (hn0 : n ≠ 0) (hn : n ≠ val)  : OffC c val pos o false false := by
  intro w
  have hb := Aside0.mk hb
  have q1 : (o.toList == ([42] : List UInt8)) = false := beq_eq_false_iff_ne.mpr s1
  have q2 : (o.toList == ([63] : List UInt8)) = false := beq_eq_false_iff_ne.mpr s2
  have h1 := Aside0.mk h1
  have h2 := Aside0.mk h2
  have ha := Aside0.mk ha
  have qi0 : (0 < t.length) = True := eq_true (by omega)
  have qi1 : (0 < (t.length : Int)) = True := eq_true (by omega)
  have qi2 : (1 < t.length) = True := eq_true (by omega)
  have qi3 : (1 < (t.length : Int)) = True := eq_true (by omega)
  have g0 : ∃ lo, rd t 0 = lo := ⟨_, rfl⟩
  have g1 : ∃ hi, rd t 1 = hi := ⟨_, rfl⟩
  obtain ⟨lo, g0⟩ := g0
  obtain ⟨hi, g1⟩ := g1
  rw [g0] at hlo
  rw [g1] at hhi
  have n4 : ¬ n < lo := by omega
  have n5 : ¬ hi < n := by omega
  have e5 : ((pos : Int) == 5) = false := by simp; omega
  clear hp
  have f1 : (val == 0) = false := by simp [hv]
  have f2 : (n == 0) = false := by simp [hn0]
  have f3 : (n == val) = false := by simp [hn]
  go_enter Tryz.func60, Tryz.ntmps60
  go_wp2_with (first | (go_at_call 85; refine (gronx_boundsByPos.calls k _ _ _ hb.out).mono ?_; rintro e w1 ⟨v0, rfl, hR, hb1⟩; obtain ⟨A, cc, rfl⟩ := Kd.R_slice hR) | (go_at_call 56; refine (gronx_zzContains.calls k _ _ _ _ h1.out).mono ?_; rintro e wz ⟨rfl, ⟨nd, rfl⟩⟩; clear h1) | (go_at_call 56; refine (gronx_zzContains.calls k _ _ _ _ h2.out).mono ?_; rintro e wz ⟨rfl, ⟨nd2, rfl⟩⟩; clear h2) | (go_at_call 88; refine (strconv_Atoi.calls _ _ _ _ ha.out).mono ?_; rintro e w2 ⟨rfl, hb2⟩; rw [errW_none]; obtain ⟨ad, rfl, y0, y1⟩ := two_int (Kd.R_reads' hR).2.2 rfl (by omega); have x0 := cell_after (by repeat (first | exact hb2 | exact below_step (by repeat (first | exact Below.refl _ _ | apply pw_below_drewN)) hb2)) y0; rw [g0] at x0; have x1 := cell_after (by repeat (first | exact hb2 | exact below_step (by repeat (first | exact Below.refl _ _ | apply pw_below_drewN)) hb2)) y1; rw [g1] at x1))
  go_ret2
  exact ⟨_, rfl, .inl ⟨rfl, rfl⟩, below_step (by repeat (first | exact hb1 | apply pw_below_drewN)) hb2⟩
end Go.Proofs.YtkhgeonlohafgaaGreatDoor.Core
namespace Go.Proofs.YtkhgeonlohafgaaGreatDoor.Core
open Go.RowKit Go.Proofs.YtkhgeonlohafgaaGreatDoorW.PrintWords
theorem decN_small (n : Nat) (h : n < 100) : decN n = if n < 10 then [UInt8.ofNat (48 + n)] else [UInt8.ofNat (48 + n / 10), UInt8.ofNat (48 + n % 10)] := by
  split
  · rename_i h1; exact decN_lt n h1
  · rename_i h1; rw [decN_ge n h1, decN_lt (n / 10) (by omega)]; rfl
theorem atoi_table : ∀ n : Fin 100, Lib.atoi (if n.val < 10 then [UInt8.ofNat (48 + n.val)] else [UInt8.ofNat (48 + n.val / 10), UInt8.ofNat (48 + n.val % 10)]) = some (n.val : Int) := by decide +kernel
theorem atoi_two (n : Nat) (h : n < 100) : strconv_Atoi.f (B (decN n)) = some ((n : Int), none) := by
  unfold strconv_Atoi.f
  have hl := decN_length n 1 (by simpa using h)
  rw [B_size, if_pos (by omega), B_data, decN_small n h, atoi_table ⟨n, h⟩]
  rfl
theorem dec_no (n : Nat) (c : UInt8) (hc : c.toNat < 48 ∨ 57 < c.toNat) : c ∉ decN n := fun e => by have := decN_digit n c e; omega
def loB (i : Nat) : Int := if i = 3 ∨ i = 4 then 1 else 0
def hiB (i : Nat) : Int := [59, 59, 23, 31, 12, 7, 9999].getD i 0
theorem bounds_ev (i : Nat) (hi : i ≤ 6) : Ev (fun k => gronx_boundsByPos.f k (i : Int)) [loB i, hiB i] := by
  match i, hi with
  | 0, _ => exact Ev.done fun k => rfl
  | 1, _ => exact Ev.done fun k => rfl
  | 2, _ => exact Ev.done fun k => rfl
  | 3, _ => exact Ev.done fun k => rfl
  | 4, _ => exact Ev.done fun k => rfl
  | 5, _ => exact Ev.done fun k => rfl
  | 6, _ => exact Ev.done fun k => rfl
theorem contains_no (c : UInt8) (l : List UInt8) (h : c ∉ l) (hl : l.length < 4611686018427387904) : Ev (fun k => gronx_zzContains.f k (B l) (B [c])) false := by
  unfold gronx_zzContains.f
  have := zzIndex_ev l [c] (by simp) hl (by simp)
  rw [idxL_one_none c l h 0] at this
  exact Ev.bind this (Ev.const rfl)
theorem contains_yes (c : UInt8) (p r : List UInt8) (h : c ∉ p) (hl : (p ++ c :: r).length < 4611686018427387904) : Ev (fun k => gronx_zzContains.f k (B (p ++ c :: r)) (B [c])) true := by
  unfold gronx_zzContains.f
  have := zzIndex_ev (p ++ c :: r) [c] (by simp) hl (by simp)
  rw [idxL_one_at c p r h 0] at this
  exact Ev.bind this (Ev.const (by rw [decide_eq_true (by omega)]))
theorem Ev.succ {α : Type} {g : Nat → Option α} {r : α} (h : Ev (fun k => g (k + 1)) r) : Ev g r := Ev.step (fun _ => rfl) h
end Go.Proofs.YtkhgeonlohafgaaGreatDoor.Core
namespace Go.Proofs.YtkhgeonlohafgaaGreatDoor.Core
open Go.RowKit Go.Proofs.YtkhgeonlohafgaaGreatDoorW.PrintWords
theorem dec_head' (n : Nat) (r : List UInt8) : ∃ b t, decN n ++ r = b :: t ∧ 48 ≤ b.toNat ∧ b.toNat ≤ 57 := by
  match h : decN n, decN_ne n with
  | b :: t, _ => exact ⟨b, t ++ r, rfl, decN_digit n b (by rw [h]; simp)⟩
theorem dec_ne' (n : Nat) (r : List UInt8) (c : UInt8) (t : List UInt8) (hc : c.toNat < 48 ∨ 57 < c.toNat) : decN n ++ r ≠ c :: t := by
  obtain ⟨b, s, e, h1, h2⟩ := dec_head' n r
  rw [e]
  intro h
  have := (List.cons.inj h).1
  subst this
  omega
theorem split_two' (c : UInt8) (p q : List UInt8) (hp : c ∉ p) (hq : c ∉ q) (hl : (p ++ c :: q).length < 8796093022208) : Ev (fun k => gronx_zzSplit.f k (B (p ++ c :: q)) (B [c])) [B p, B q] := by
  have := zzSplit_ev c (p ++ c :: q) hl
  rw [splitL_at c p q hp, splitL_none c q hq] at this
  exact this
theorem offC_num (c : Nat) (n : Nat) (hn : n < 100) (i : Nat) (hi : i ≤ 6) (val : Int) (lo : loB i ≤ (n : Int)) (hi' : (n : Int) ≤ hiB i) (h5 : i = 5 → n ≤ 6) : OffC c val i (B (decN n)) (decide ((n : Int) = val)) false := by
  have hl := decN_length n 1 (by simpa using hn)
  obtain ⟨K1, hK1⟩ := bounds_ev i hi
  obtain ⟨K2, hK2⟩ := contains_no 47 _ (dec_no n 47 (by decide)) (by omega)
  obtain ⟨K3, hK3⟩ := contains_no 45 _ (dec_no n 45 (by decide)) (by omega)
  have f1 := hK1 (max K1 (max K2 K3)) (by omega)
  have f2 := hK2 (max K1 (max K2 K3)) (by omega)
  have f3 := hK3 (max K1 (max K2 K3)) (by omega)
  have s1 : (B (decN n)).toList ≠ ([42] : List UInt8) := by rw [B_list]; simpa using dec_ne' n [] 42 [] (by decide)
  have s2 : (B (decN n)).toList ≠ ([63] : List UInt8) := by rw [B_list]; simpa using dec_ne' n [] 63 [] (by decide)
  have ha := atoi_two n hn
  by_cases e5 : i = 5
  · by_cases e : (n : Int) = val
    · rw [decide_eq_true e]; exact offNum_wd_eq c _ _ val _ i s1 s2 f1 rfl n f2 f3 ha lo hi' e5 e
    · rw [decide_eq_false e]; exact offNum_wd_ne c _ _ val _ i s1 s2 f1 rfl n f2 f3 ha lo hi' e5 (by have := h5 e5; omega) e
  · by_cases v0 : val = 0
    · by_cases n0 : (n : Int) = 0
      · rw [decide_eq_true (by omega)]; exact offNum_zz c _ _ val _ i s1 s2 f1 rfl n f2 f3 ha lo hi' e5 v0 n0
      · rw [decide_eq_false (by omega)]; exact offNum_zn c _ _ val _ i s1 s2 f1 rfl n f2 f3 ha lo hi' e5 v0 n0
    · by_cases n0 : (n : Int) = 0
      · rw [decide_eq_false (by omega)]; exact offNum_nz c _ _ val _ i s1 s2 f1 rfl n f2 f3 ha lo hi' e5 v0 n0
      · by_cases e : (n : Int) = val
        · rw [decide_eq_true e]; exact offNum_eq c _ _ val _ i s1 s2 f1 rfl n f2 f3 ha lo hi' e5 v0 n0 e
        · rw [decide_eq_false e]; exact offNum_ne c _ _ val _ i s1 s2 f1 rfl n f2 f3 ha lo hi' e5 v0 n0 e
end Go.Proofs.YtkhgeonlohafgaaGreatDoor.Core
namespace Go.Proofs.YtkhgeonlohafgaaGreatDoor.Core
open Go.RowKit Go.Proofs.YtkhgeonlohafgaaGreatDoorW.PrintWords
end Go.Proofs.YtkhgeonlohafgaaGreatDoor.Core
namespace Go.Proofs.YtkhgeonlohafgaaGreatDoor.Core
open Go.RowKit Go.Proofs.YtkhgeonlohafgaaGreatDoorW.PrintWords Go.Proofs.YtkhgeonlohafgaaGreatDoorW.PrintLast Go.Proofs.YtkhgeonlohafgaaGreatDoorW.PrintMore
attribute [local go_sem] max2_int min2_int max_two min_two max_three min_three max_four min_four   -- for this text's walks alone
set_option linter.unusedVariables false
set_option linter.unusedSimpArgs false
mutual
def gronx_isSyntaxValid.l0 : Nat → List ByteArray → Int → Int → Option (Bool)
  | 0, _, _, _ => none
  | k + 1, x9, x10, x11 => if x11 < x10 then (if 0 ≤ x11 then (if x11 < (x9.length : Int) then (if (rdOf ByteArray.empty x9 x11).toList = ([] : List UInt8) then (some false) else ((gronx_zzSplit.f k (rdOf ByteArray.empty x9 x11) (⟨#[44]⟩ : ByteArray)).bind fun t453 => (gronx_isSyntaxValid.l1 k x9 x10 x11 t453 (t453.length : Int) 0))) else (none)) else (none)) else (some true)
def gronx_isSyntaxValid.l1 : Nat → List ByteArray → Int → Int → List ByteArray → Int → Int → Option (Bool)
  | 0, _, _, _, _, _, _ => none
  | k + 1, x9, x10, x11, x19, x20, x21 => if x21 < x20 then (if 0 ≤ x21 then (if x21 < (x19.length : Int) then (if (rdOf ByteArray.empty x19 x21).toList = ([] : List UInt8) then (some false) else ((gronx_zzContainsAny.f k (rdOf ByteArray.empty x19 x21) (⟨#[42, 47]⟩ : ByteArray)).bind fun t457 => (if t457 = true then ((gronx_zzContains.f k (rdOf ByteArray.empty x19 x21) (⟨#[47]⟩ : ByteArray)).bind fun t458 => (if t458 = true then ((gronx_zzSplit.f k (rdOf ByteArray.empty x19 x21) (⟨#[47]⟩ : ByteArray)).bind fun t459 => (if (t459.length : Int) = 2 then (if 1 < (t459.length : Int) then (if (rdOf ByteArray.empty t459 1).toList = ([] : List UInt8) then (some false) else (gronx_isSyntaxValid.l1 k x9 x10 x11 x19 x20 (wrap64 (x21 + 1)))) else (none)) else (some false))) else (gronx_isSyntaxValid.l1 k x9 x10 x11 x19 x20 (wrap64 (x21 + 1))))) else (gronx_isSyntaxValid.l1 k x9 x10 x11 x19 x20 (wrap64 (x21 + 1)))))) else (none)) else (none)) else (gronx_isSyntaxValid.l0 k x9 x10 (wrap64 (x11 + 1)))
end
def gronx_isSyntaxValid.f (k : Nat) (l0 : List ByteArray) : Option (Bool) := gronx_isSyntaxValid.l0 k l0 (l0.length : Int) 0
set_option maxHeartbeats 8000000 in
set_option maxRecDepth 100000 in
theorem gronx_isSyntaxValid.calls (k : Nat) (A0 : Option Addr) (c0 : Nat) (l0 : List ByteArray) (r : Bool) (w : World) (hr0 : Kd.C Kd.string w A0 l0.length l0) (hc0 : l0.length ≤ c0) (h : gronx_isSyntaxValid.f k l0 = some r) :
    Calls Tryz.prog 43 #[.slice A0 l0.length c0] w fun e w' => e = .returned (.bool r) ∧ Below w.heap.size w w' := by
  have HR0 := Aside0.mk hr0
  have HC0 := Aside0.mk hc0
  clear hr0 hc0
  have HB := Aside0.mk (Below.refl w.heap.size w)
  have H : (gronx_isSyntaxValid.l0 k l0 (l0.length : Int) 0) = some r := h
  clear h
  have H' := Aside0.mk H
  clear H
  go_enter Tryz.func43, Tryz.ntmps43
  go_wp2
  go_loopg [11] k (fun kq v11 w' => ∃ (x11_1 : Int), v11 = .int .i64 x11_1 ∧ Aside0 (gronx_isSyntaxValid.l0 kq l0 (l0.length : Int) x11_1 = some r) ∧ Aside0 (kq ≤ k) ∧ Aside0 (Below w.heap.size w w'))
  case atStart => exact ⟨(0), (by first | rfl | (simp; done) | (simp [*]; done)), H', ⟨Nat.le_refl _⟩, ⟨by repeat (first | (with_reducible first | exact HB.out | apply below_alloc | apply pw_below_drewN | apply below_drew1) | exact HB.out)⟩⟩
  case round =>
    clear H'
    obtain ⟨x11_1, rfl, HA, HK1, HB⟩ := hrel
    cases gk with
    | zero => exact absurd HA.out (by simp [gronx_isSyntaxValid.l0])
    | succ k1 =>
      have H := HA.out
      clear HA
      simp only [gronx_isSyntaxValid.l0] at H
      by_cases c2 : x11_1 < (l0.length : Int)
      · rw [if_pos c2] at H
        have c2b0 : decide (x11_1 < (l0.length : Int)) = true := decide_eq_true c2
        clear c2
        by_cases c3 : 0 ≤ x11_1
        · rw [if_pos c3] at H
          have c3b0 : decide (0 ≤ x11_1) = true := decide_eq_true c3
          clear c3
          by_cases c4 : x11_1 < (l0.length : Int)
          · rw [if_pos c4] at H
            have c4b0 : decide (x11_1 < (l0.length : Int)) = true := decide_eq_true c4
            clear c4
            by_cases c5 : (rdOf ByteArray.empty l0 x11_1).toList = ([] : List UInt8)
            · rw [if_pos c5] at H
              have c5b0 : ((rdOf ByteArray.empty l0 x11_1).toList == ([] : List UInt8)) = true := beq_iff_eq.mpr c5
              have c5b1 : ((rdOf ByteArray.empty l0 x11_1).toList != ([] : List UInt8)) = false := bne_eq_false_iff_eq.mpr c5
              clear c5
              obtain rfl := Option.some.inj H
              have p452 : 0 ≤ (x11_1 : Int) := of_decide_eq_true (by first | (with_reducible assumption) | assumption)
              have q452 : x11_1 < (l0.length : Int) := of_decide_eq_true (by first | (with_reducible assumption) | assumption)
              obtain ⟨ad452, e452, hx452_0⟩ := Kd.at_string HR0.out x11_1 p452 q452
              cases e452
              replace hx452_0 := (HB.out.cell (World.block_lt_of_cell? w _ hx452_0)).trans hx452_0
              replace p452 := eq_true p452
              replace q452 := eq_true q452
              go_wp2
              go_ret
              exact ⟨by first | rfl | (simp [errW_none, errW_some] <;> rfl) | (simp [*, errW_none, errW_some] <;> rfl), by repeat (first | (with_reducible first | exact HB.out | apply below_alloc | apply pw_below_drewN | apply below_drew1) | exact HB.out)⟩
            · rw [if_neg c5] at H
              have c5b0 : ((rdOf ByteArray.empty l0 x11_1).toList == ([] : List UInt8)) = false := beq_eq_false_iff_ne.mpr c5
              have c5b1 : ((rdOf ByteArray.empty l0 x11_1).toList != ([] : List UInt8)) = true := bne_iff_ne.mpr c5
              replace H := Option.bind_eq_some_iff.mp H
              obtain ⟨t453, A60, H⟩ := H
              replace H : (gronx_isSyntaxValid.l1 k1 l0 (l0.length : Int) x11_1 t453 (t453.length : Int) 0) = some r := H
              have A6 := Aside0.mk A60
              clear A60
              have H' := Aside0.mk H
              clear H
              have p452 : 0 ≤ (x11_1 : Int) := of_decide_eq_true (by first | (with_reducible assumption) | assumption)
              have q452 : x11_1 < (l0.length : Int) := of_decide_eq_true (by first | (with_reducible assumption) | assumption)
              obtain ⟨ad452, e452, hx452_0⟩ := Kd.at_string HR0.out x11_1 p452 q452
              cases e452
              replace hx452_0 := (HB.out.cell (World.block_lt_of_cell? w _ hx452_0)).trans hx452_0
              replace p452 := eq_true p452
              replace q452 := eq_true q452
              go_wp2_with (first | ((with_reducible refine gate_callee (f := 54) rfl ?_); refine goesL_ (some 18) rfl rfl Tryz.func54 (by kernel_rfl) rfl #[.string (rdOf ByteArray.empty l0 x11_1), .string (⟨#[44]⟩ : ByteArray)] rfl (by (try simp only [List.map_toArray, List.map_cons, List.map_nil]); first | done | rfl | (simp only [List.length_drop, List.length_take]; rfl)) ?_; (with_reducible refine (gronx_zzSplit.calls k1 (rdOf ByteArray.empty l0 x11_1) (⟨#[44]⟩ : ByteArray) t453 _ A6.out).mono ?_); rintro e w7 ⟨v454, rfl, ho0, hb⟩; refine ⟨_, rfl, ?_⟩; have n0_ := Aside0.mk (Kd.R_lower ho0 (below_size (by repeat (first | (with_reducible first | exact HB.out | apply below_alloc | apply pw_below_drewN | apply below_drew1) | exact HB.out)))); have n1_ := Aside0.mk (below_step (by repeat (first | (with_reducible first | exact HB.out | apply below_alloc | apply pw_below_drewN | apply below_drew1) | exact HB.out)) hb); clear HB; have HO455 := n0_; have HB := n1_; clear n0_ n1_; (try clear hb); (try clear hb2); (try clear hk); (try clear hi); (try clear ho0); obtain ⟨Ao8, co8, eo8⟩ := Kd.R_slice HO455.out; subst eo8))
              go_loopg [21] k1 (fun kq v21 w' => ∃ (x21_2 : Int), v21 = .int .i64 x21_2 ∧ Aside0 (gronx_isSyntaxValid.l1 kq l0 (l0.length : Int) x11_1 t453 (t453.length : Int) x21_2 = some r) ∧ Aside0 (kq ≤ k1) ∧ Aside0 (Kd.R Kd.string 9 w' w.heap.size (fun _ => True) (.slice Ao8 t453.length co8) t453) ∧ Aside0 (Below w.heap.size w w'))
              case atStart => exact ⟨(0), (by first | rfl | (simp; done) | (simp [*]; done)), H', ⟨Nat.le_refl _⟩, ⟨by (with_reducible repeat (first | apply Kd.R_alloc | apply Kd.R_drewN | apply Kd.R_drew)); exact HO455.out⟩, ⟨by repeat (first | (with_reducible first | exact HB.out | apply below_alloc | apply pw_below_drewN | apply below_drew1) | exact HB.out)⟩⟩
              case round =>
                clear H'
                try clear c2
                try clear c2b0
                try clear p2
                try clear c3
                try clear c3b0
                try clear c4
                try clear c4b0
                try clear p4
                try clear q4
                try clear hx4
                try clear c5
                try clear c5b0
                try clear c5b1
                try clear hx452_0
                try clear p452
                try clear q452
                obtain ⟨x21_2, rfl, HA, HK2, HO_19, HB⟩ := hrel
                cases gk with
                | zero => exact absurd HA.out (by simp [gronx_isSyntaxValid.l1])
                | succ k2 =>
                  have H := HA.out
                  clear HA
                  simp only [gronx_isSyntaxValid.l1] at H
                  by_cases c9 : x21_2 < (t453.length : Int)
                  · rw [if_pos c9] at H
                    have c9b0 : decide (x21_2 < (t453.length : Int)) = true := decide_eq_true c9
                    clear c9
                    by_cases c10 : 0 ≤ x21_2
                    · rw [if_pos c10] at H
                      have c10b0 : decide (0 ≤ x21_2) = true := decide_eq_true c10
                      clear c10
                      by_cases c11 : x21_2 < (t453.length : Int)
                      · rw [if_pos c11] at H
                        have c11b0 : decide (x21_2 < (t453.length : Int)) = true := decide_eq_true c11
                        clear c11
                        by_cases c12 : (rdOf ByteArray.empty t453 x21_2).toList = ([] : List UInt8)
                        · rw [if_pos c12] at H
                          have c12b0 : ((rdOf ByteArray.empty t453 x21_2).toList == ([] : List UInt8)) = true := beq_iff_eq.mpr c12
                          have c12b1 : ((rdOf ByteArray.empty t453 x21_2).toList != ([] : List UInt8)) = false := bne_eq_false_iff_eq.mpr c12
                          clear c12
                          obtain rfl := Option.some.inj H
                          have p456 : 0 ≤ (x21_2 : Int) := of_decide_eq_true (by first | (with_reducible assumption) | assumption)
                          have q456 : x21_2 < (t453.length : Int) := of_decide_eq_true (by first | (with_reducible assumption) | assumption)
                          obtain ⟨ad456, e456, hx456_0⟩ := Kd.at_string (Kd.R_reads' HO_19.out).2.2 x21_2 p456 q456
                          cases e456
                          replace p456 := eq_true p456
                          replace q456 := eq_true q456
                          go_wp2
                          go_ret
                          exact ⟨by first | rfl | (simp [errW_none, errW_some] <;> rfl) | (simp [*, errW_none, errW_some] <;> rfl), by repeat (first | (with_reducible first | exact HB.out | apply below_alloc | apply pw_below_drewN | apply below_drew1) | exact HB.out)⟩
                        · rw [if_neg c12] at H
                          have c12b0 : ((rdOf ByteArray.empty t453 x21_2).toList == ([] : List UInt8)) = false := beq_eq_false_iff_ne.mpr c12
                          have c12b1 : ((rdOf ByteArray.empty t453 x21_2).toList != ([] : List UInt8)) = true := bne_iff_ne.mpr c12
                          replace H := Option.bind_eq_some_iff.mp H
                          obtain ⟨t457, A130, H⟩ := H
                          replace H : (if t457 = true then ((gronx_zzContains.f k2 (rdOf ByteArray.empty t453 x21_2) (⟨#[47]⟩ : ByteArray)).bind fun t458 => (if t458 = true then ((gronx_zzSplit.f k2 (rdOf ByteArray.empty t453 x21_2) (⟨#[47]⟩ : ByteArray)).bind fun t459 => (if (t459.length : Int) = 2 then (if 1 < (t459.length : Int) then (if (rdOf ByteArray.empty t459 1).toList = ([] : List UInt8) then (some false) else (gronx_isSyntaxValid.l1 k2 l0 (l0.length : Int) x11_1 t453 (t453.length : Int) (wrap64 (x21_2 + 1)))) else (none)) else (some false))) else (gronx_isSyntaxValid.l1 k2 l0 (l0.length : Int) x11_1 t453 (t453.length : Int) (wrap64 (x21_2 + 1))))) else (gronx_isSyntaxValid.l1 k2 l0 (l0.length : Int) x11_1 t453 (t453.length : Int) (wrap64 (x21_2 + 1)))) = some r := H
                          have A13 := Aside0.mk A130
                          clear A130
                          by_cases c14 : t457 = true
                          · subst c14
                            have H1 : ((gronx_zzContains.f k2 (rdOf ByteArray.empty t453 x21_2) (⟨#[47]⟩ : ByteArray)).bind fun t458 => (if t458 = true then ((gronx_zzSplit.f k2 (rdOf ByteArray.empty t453 x21_2) (⟨#[47]⟩ : ByteArray)).bind fun t459 => (if (t459.length : Int) = 2 then (if 1 < (t459.length : Int) then (if (rdOf ByteArray.empty t459 1).toList = ([] : List UInt8) then (some false) else (gronx_isSyntaxValid.l1 k2 l0 (l0.length : Int) x11_1 t453 (t453.length : Int) (wrap64 (x21_2 + 1)))) else (none)) else (some false))) else (gronx_isSyntaxValid.l1 k2 l0 (l0.length : Int) x11_1 t453 (t453.length : Int) (wrap64 (x21_2 + 1))))) = some r := by rw [if_pos rfl] at H; exact H
                            clear H
                            have H := H1
                            clear H1
                            replace H := Option.bind_eq_some_iff.mp H
                            obtain ⟨t458, A150, H⟩ := H
                            replace H : (if t458 = true then ((gronx_zzSplit.f k2 (rdOf ByteArray.empty t453 x21_2) (⟨#[47]⟩ : ByteArray)).bind fun t459 => (if (t459.length : Int) = 2 then (if 1 < (t459.length : Int) then (if (rdOf ByteArray.empty t459 1).toList = ([] : List UInt8) then (some false) else (gronx_isSyntaxValid.l1 k2 l0 (l0.length : Int) x11_1 t453 (t453.length : Int) (wrap64 (x21_2 + 1)))) else (none)) else (some false))) else (gronx_isSyntaxValid.l1 k2 l0 (l0.length : Int) x11_1 t453 (t453.length : Int) (wrap64 (x21_2 + 1)))) = some r := H
                            have A15 := Aside0.mk A150
                            clear A150
                            by_cases c16 : t458 = true
                            · subst c16
                              have H1 : ((gronx_zzSplit.f k2 (rdOf ByteArray.empty t453 x21_2) (⟨#[47]⟩ : ByteArray)).bind fun t459 => (if (t459.length : Int) = 2 then (if 1 < (t459.length : Int) then (if (rdOf ByteArray.empty t459 1).toList = ([] : List UInt8) then (some false) else (gronx_isSyntaxValid.l1 k2 l0 (l0.length : Int) x11_1 t453 (t453.length : Int) (wrap64 (x21_2 + 1)))) else (none)) else (some false))) = some r := by rw [if_pos rfl] at H; exact H
                              clear H
                              have H := H1
                              clear H1
                              replace H := Option.bind_eq_some_iff.mp H
                              obtain ⟨t459, A170, H⟩ := H
                              replace H : (if (t459.length : Int) = 2 then (if 1 < (t459.length : Int) then (if (rdOf ByteArray.empty t459 1).toList = ([] : List UInt8) then (some false) else (gronx_isSyntaxValid.l1 k2 l0 (l0.length : Int) x11_1 t453 (t453.length : Int) (wrap64 (x21_2 + 1)))) else (none)) else (some false)) = some r := H
                              have A17 := Aside0.mk A170
                              clear A170
                              by_cases c18 : (t459.length : Int) = 2
                              · rw [if_pos c18] at H
                                have c18b0 : ((t459.length : Int) == 2) = true := beq_iff_eq.mpr c18
                                have c18b1 : ((t459.length : Int) != 2) = false := bne_eq_false_iff_eq.mpr c18
                                clear c18
                                by_cases c19 : 1 < (t459.length : Int)
                                · rw [if_pos c19] at H
                                  have c19b0 : decide (1 < (t459.length : Int)) = true := decide_eq_true c19
                                  have c19b1 : decide (1 < t459.length) = true := decide_eq_true (by omega)
                                  clear c19
                                  by_cases c20 : (rdOf ByteArray.empty t459 1).toList = ([] : List UInt8)
                                  · rw [if_pos c20] at H
                                    have c20b0 : ((rdOf ByteArray.empty t459 1).toList == ([] : List UInt8)) = true := beq_iff_eq.mpr c20
                                    have c20b1 : ((rdOf ByteArray.empty t459 1).toList != ([] : List UInt8)) = false := bne_eq_false_iff_eq.mpr c20
                                    clear c20
                                    obtain rfl := Option.some.inj H
                                    have p456 : 0 ≤ (x21_2 : Int) := of_decide_eq_true (by first | (with_reducible assumption) | assumption)
                                    have q456 : x21_2 < (t453.length : Int) := of_decide_eq_true (by first | (with_reducible assumption) | assumption)
                                    obtain ⟨ad456, e456, hx456_0⟩ := Kd.at_string (Kd.R_reads' HO_19.out).2.2 x21_2 p456 q456
                                    cases e456
                                    replace p456 := eq_true p456
                                    replace q456 := eq_true q456
                                    go_wp2_with (first | ((with_reducible refine gate_callee (f := 55) rfl ?_); refine goesL_ (some 28) rfl rfl Tryz.func55 (by kernel_rfl) rfl #[.string (rdOf ByteArray.empty t453 x21_2), .string (⟨#[42, 47]⟩ : ByteArray)] rfl (by (try simp only [List.map_toArray, List.map_cons, List.map_nil]); first | done | rfl | (simp only [List.length_drop, List.length_take]; rfl)) ?_; (with_reducible refine (gronx_zzContainsAny.calls k2 (rdOf ByteArray.empty t453 x21_2) (⟨#[42, 47]⟩ : ByteArray) true _ A13.out).mono ?_); rintro e w' ⟨rfl, ⟨nd, rfl⟩⟩; refine ⟨_, rfl, ?_⟩) | ((with_reducible refine gate_callee (f := 56) rfl ?_); refine goesL_ (some 30) rfl rfl Tryz.func56 (by kernel_rfl) rfl #[.string (rdOf ByteArray.empty t453 x21_2), .string (⟨#[47]⟩ : ByteArray)] rfl (by (try simp only [List.map_toArray, List.map_cons, List.map_nil]); first | done | rfl | (simp only [List.length_drop, List.length_take]; rfl)) ?_; (with_reducible refine (gronx_zzContains.calls k2 (rdOf ByteArray.empty t453 x21_2) (⟨#[47]⟩ : ByteArray) true _ A15.out).mono ?_); rintro e w' ⟨rfl, ⟨nd, rfl⟩⟩; refine ⟨_, rfl, ?_⟩) | ((with_reducible refine gate_callee (f := 54) rfl ?_); refine goesL_ (some 32) rfl rfl Tryz.func54 (by kernel_rfl) rfl #[.string (rdOf ByteArray.empty t453 x21_2), .string (⟨#[47]⟩ : ByteArray)] rfl (by (try simp only [List.map_toArray, List.map_cons, List.map_nil]); first | done | rfl | (simp only [List.length_drop, List.length_take]; rfl)) ?_; (with_reducible refine (gronx_zzSplit.calls k2 (rdOf ByteArray.empty t453 x21_2) (⟨#[47]⟩ : ByteArray) t459 _ A17.out).mono ?_); rintro e w21 ⟨v460, rfl, ho0, hb⟩; refine ⟨_, rfl, ?_⟩; have n0_ := Aside0.mk (Kd.R_elder' (by (with_reducible repeat (first | apply Kd.R_alloc | apply Kd.R_drewN | apply Kd.R_drew)); exact HO_19.out) (Kd.R_base ho0) hb); have n1_ := Aside0.mk (Kd.R_lower (Kd.R_new' ho0 (Kd.R_lt (by (with_reducible repeat (first | apply Kd.R_alloc | apply Kd.R_drewN | apply Kd.R_drew)); exact HO_19.out))) (below_size (by repeat (first | (with_reducible first | exact HB.out | apply below_alloc | apply pw_below_drewN | apply below_drew1) | exact HB.out)))); have n2_ := Aside0.mk (below_step (by repeat (first | (with_reducible first | exact HB.out | apply below_alloc | apply pw_below_drewN | apply below_drew1) | exact HB.out)) hb); clear HO_19; clear HB; have HO_19 := n0_; have HO461 := n1_; have HB := n2_; clear n0_ n1_ n2_; (try clear hb); (try clear hb2); (try clear hk); (try clear hi); (try clear ho0); obtain ⟨Ao22, co22, eo22⟩ := Kd.R_slice HO461.out; subst eo22; have p462 : 0 ≤ (1 : Int) := (by omega); have q462 : 1 < (t459.length : Int) := of_decide_eq_true (by first | (with_reducible assumption) | assumption); obtain ⟨ad462, e462, hx462_0⟩ := Kd.at_string (Kd.R_reads' HO461.out).2.2 1 p462 q462; cases e462; (try simp only [show (1 : Int).toNat = 1 from rfl, Nat.reduceMul, Nat.reduceEqDiff, Go.Addr.add, ↓reduceIte] at hx462_0); have qi462 : (1 < t459.length) = True := eq_true (by omega); (try rw [show ((1 : Int)).toNat = 1 from rfl] at hx462_0); replace p462 := eq_true p462; replace q462 := eq_true q462))
                                    go_ret
                                    exact ⟨by first | rfl | (simp [errW_none, errW_some] <;> rfl) | (simp [*, errW_none, errW_some] <;> rfl), by repeat (first | (with_reducible first | exact HB.out | apply below_alloc | apply pw_below_drewN | apply below_drew1) | exact HB.out)⟩
                                  · rw [if_neg c20] at H
                                    have c20b0 : ((rdOf ByteArray.empty t459 1).toList == ([] : List UInt8)) = false := beq_eq_false_iff_ne.mpr c20
                                    have c20b1 : ((rdOf ByteArray.empty t459 1).toList != ([] : List UInt8)) = true := bne_iff_ne.mpr c20
                                    have H' := Aside0.mk H
                                    clear H
                                    have p456 : 0 ≤ (x21_2 : Int) := of_decide_eq_true (by first | (with_reducible assumption) | assumption)
                                    have q456 : x21_2 < (t453.length : Int) := of_decide_eq_true (by first | (with_reducible assumption) | assumption)
                                    obtain ⟨ad456, e456, hx456_0⟩ := Kd.at_string (Kd.R_reads' HO_19.out).2.2 x21_2 p456 q456
                                    cases e456
                                    replace p456 := eq_true p456
                                    replace q456 := eq_true q456
                                    go_wp2_with (first | ((with_reducible refine gate_callee (f := 55) rfl ?_); refine goesL_ (some 28) rfl rfl Tryz.func55 (by kernel_rfl) rfl #[.string (rdOf ByteArray.empty t453 x21_2), .string (⟨#[42, 47]⟩ : ByteArray)] rfl (by (try simp only [List.map_toArray, List.map_cons, List.map_nil]); first | done | rfl | (simp only [List.length_drop, List.length_take]; rfl)) ?_; (with_reducible refine (gronx_zzContainsAny.calls k2 (rdOf ByteArray.empty t453 x21_2) (⟨#[42, 47]⟩ : ByteArray) true _ A13.out).mono ?_); rintro e w' ⟨rfl, ⟨nd, rfl⟩⟩; refine ⟨_, rfl, ?_⟩) | ((with_reducible refine gate_callee (f := 56) rfl ?_); refine goesL_ (some 30) rfl rfl Tryz.func56 (by kernel_rfl) rfl #[.string (rdOf ByteArray.empty t453 x21_2), .string (⟨#[47]⟩ : ByteArray)] rfl (by (try simp only [List.map_toArray, List.map_cons, List.map_nil]); first | done | rfl | (simp only [List.length_drop, List.length_take]; rfl)) ?_; (with_reducible refine (gronx_zzContains.calls k2 (rdOf ByteArray.empty t453 x21_2) (⟨#[47]⟩ : ByteArray) true _ A15.out).mono ?_); rintro e w' ⟨rfl, ⟨nd, rfl⟩⟩; refine ⟨_, rfl, ?_⟩) | ((with_reducible refine gate_callee (f := 54) rfl ?_); refine goesL_ (some 32) rfl rfl Tryz.func54 (by kernel_rfl) rfl #[.string (rdOf ByteArray.empty t453 x21_2), .string (⟨#[47]⟩ : ByteArray)] rfl (by (try simp only [List.map_toArray, List.map_cons, List.map_nil]); first | done | rfl | (simp only [List.length_drop, List.length_take]; rfl)) ?_; (with_reducible refine (gronx_zzSplit.calls k2 (rdOf ByteArray.empty t453 x21_2) (⟨#[47]⟩ : ByteArray) t459 _ A17.out).mono ?_); rintro e w23 ⟨v460, rfl, ho0, hb⟩; refine ⟨_, rfl, ?_⟩; have n0_ := Aside0.mk (Kd.R_elder' (by (with_reducible repeat (first | apply Kd.R_alloc | apply Kd.R_drewN | apply Kd.R_drew)); exact HO_19.out) (Kd.R_base ho0) hb); have n1_ := Aside0.mk (Kd.R_lower (Kd.R_new' ho0 (Kd.R_lt (by (with_reducible repeat (first | apply Kd.R_alloc | apply Kd.R_drewN | apply Kd.R_drew)); exact HO_19.out))) (below_size (by repeat (first | (with_reducible first | exact HB.out | apply below_alloc | apply pw_below_drewN | apply below_drew1) | exact HB.out)))); have n2_ := Aside0.mk (below_step (by repeat (first | (with_reducible first | exact HB.out | apply below_alloc | apply pw_below_drewN | apply below_drew1) | exact HB.out)) hb); clear HO_19; clear HB; have HO_19 := n0_; have HO461 := n1_; have HB := n2_; clear n0_ n1_ n2_; (try clear hb); (try clear hb2); (try clear hk); (try clear hi); (try clear ho0); obtain ⟨Ao24, co24, eo24⟩ := Kd.R_slice HO461.out; subst eo24; have p462 : 0 ≤ (1 : Int) := (by omega); have q462 : 1 < (t459.length : Int) := of_decide_eq_true (by first | (with_reducible assumption) | assumption); obtain ⟨ad462, e462, hx462_0⟩ := Kd.at_string (Kd.R_reads' HO461.out).2.2 1 p462 q462; cases e462; (try simp only [show (1 : Int).toNat = 1 from rfl, Nat.reduceMul, Nat.reduceEqDiff, Go.Addr.add, ↓reduceIte] at hx462_0); have qi462 : (1 < t459.length) = True := eq_true (by omega); (try rw [show ((1 : Int)).toNat = 1 from rfl] at hx462_0); replace p462 := eq_true p462; replace q462 := eq_true q462))
                                    go_roundg k2
                                    case measure => have := HK1.out; have := HK2.out; omega
                                    case rel => exact ⟨(wrap64 (x21_2 + 1)), (by first | rfl | (simp; done) | (simp [*]; done)), H', ⟨by have := HK1.out; have := HK2.out; omega⟩, ⟨by (with_reducible repeat (first | apply Kd.R_alloc | apply Kd.R_drewN | apply Kd.R_drew)); exact Kd.R_mono HO_19.out (fun _ hk => trivial)⟩, ⟨by repeat (first | (with_reducible first | exact HB.out | apply below_alloc | apply pw_below_drewN | apply below_drew1) | exact HB.out)⟩⟩
                                · rw [if_neg c19] at H
                                  exact absurd H (by simp)
                              · rw [if_neg c18] at H
                                have c18b0 : ((t459.length : Int) == 2) = false := beq_eq_false_iff_ne.mpr c18
                                have c18b1 : ((t459.length : Int) != 2) = true := bne_iff_ne.mpr c18
                                obtain rfl := Option.some.inj H
                                have p456 : 0 ≤ (x21_2 : Int) := of_decide_eq_true (by first | (with_reducible assumption) | assumption)
                                have q456 : x21_2 < (t453.length : Int) := of_decide_eq_true (by first | (with_reducible assumption) | assumption)
                                obtain ⟨ad456, e456, hx456_0⟩ := Kd.at_string (Kd.R_reads' HO_19.out).2.2 x21_2 p456 q456
                                cases e456
                                replace p456 := eq_true p456
                                replace q456 := eq_true q456
                                go_wp2_with (first | ((with_reducible refine gate_callee (f := 55) rfl ?_); refine goesL_ (some 28) rfl rfl Tryz.func55 (by kernel_rfl) rfl #[.string (rdOf ByteArray.empty t453 x21_2), .string (⟨#[42, 47]⟩ : ByteArray)] rfl (by (try simp only [List.map_toArray, List.map_cons, List.map_nil]); first | done | rfl | (simp only [List.length_drop, List.length_take]; rfl)) ?_; (with_reducible refine (gronx_zzContainsAny.calls k2 (rdOf ByteArray.empty t453 x21_2) (⟨#[42, 47]⟩ : ByteArray) true _ A13.out).mono ?_); rintro e w' ⟨rfl, ⟨nd, rfl⟩⟩; refine ⟨_, rfl, ?_⟩) | ((with_reducible refine gate_callee (f := 56) rfl ?_); refine goesL_ (some 30) rfl rfl Tryz.func56 (by kernel_rfl) rfl #[.string (rdOf ByteArray.empty t453 x21_2), .string (⟨#[47]⟩ : ByteArray)] rfl (by (try simp only [List.map_toArray, List.map_cons, List.map_nil]); first | done | rfl | (simp only [List.length_drop, List.length_take]; rfl)) ?_; (with_reducible refine (gronx_zzContains.calls k2 (rdOf ByteArray.empty t453 x21_2) (⟨#[47]⟩ : ByteArray) true _ A15.out).mono ?_); rintro e w' ⟨rfl, ⟨nd, rfl⟩⟩; refine ⟨_, rfl, ?_⟩) | ((with_reducible refine gate_callee (f := 54) rfl ?_); refine goesL_ (some 32) rfl rfl Tryz.func54 (by kernel_rfl) rfl #[.string (rdOf ByteArray.empty t453 x21_2), .string (⟨#[47]⟩ : ByteArray)] rfl (by (try simp only [List.map_toArray, List.map_cons, List.map_nil]); first | done | rfl | (simp only [List.length_drop, List.length_take]; rfl)) ?_; (with_reducible refine (gronx_zzSplit.calls k2 (rdOf ByteArray.empty t453 x21_2) (⟨#[47]⟩ : ByteArray) t459 _ A17.out).mono ?_); rintro e w25 ⟨v460, rfl, ho0, hb⟩; refine ⟨_, rfl, ?_⟩; have n0_ := Aside0.mk (Kd.R_elder' (by (with_reducible repeat (first | apply Kd.R_alloc | apply Kd.R_drewN | apply Kd.R_drew)); exact HO_19.out) (Kd.R_base ho0) hb); have n1_ := Aside0.mk (Kd.R_lower (Kd.R_new' ho0 (Kd.R_lt (by (with_reducible repeat (first | apply Kd.R_alloc | apply Kd.R_drewN | apply Kd.R_drew)); exact HO_19.out))) (below_size (by repeat (first | (with_reducible first | exact HB.out | apply below_alloc | apply pw_below_drewN | apply below_drew1) | exact HB.out)))); have n2_ := Aside0.mk (below_step (by repeat (first | (with_reducible first | exact HB.out | apply below_alloc | apply pw_below_drewN | apply below_drew1) | exact HB.out)) hb); clear HO_19; clear HB; have HO_19 := n0_; have HO461 := n1_; have HB := n2_; clear n0_ n1_ n2_; (try clear hb); (try clear hb2); (try clear hk); (try clear hi); (try clear ho0); obtain ⟨Ao26, co26, eo26⟩ := Kd.R_slice HO461.out; subst eo26))
                                go_ret
                                exact ⟨by first | rfl | (simp [errW_none, errW_some] <;> rfl) | (simp [*, errW_none, errW_some] <;> rfl), by repeat (first | (with_reducible first | exact HB.out | apply below_alloc | apply pw_below_drewN | apply below_drew1) | exact HB.out)⟩
                            · replace c16 := Bool.eq_false_iff.mpr c16
                              subst c16
                              have H1 : (gronx_isSyntaxValid.l1 k2 l0 (l0.length : Int) x11_1 t453 (t453.length : Int) (wrap64 (x21_2 + 1))) = some r := by rw [if_neg (show ¬ (false = true) by decide)] at H; exact H
                              clear H
                              have H := H1
                              clear H1
                              have H' := Aside0.mk H
                              clear H
                              have p456 : 0 ≤ (x21_2 : Int) := of_decide_eq_true (by first | (with_reducible assumption) | assumption)
                              have q456 : x21_2 < (t453.length : Int) := of_decide_eq_true (by first | (with_reducible assumption) | assumption)
                              obtain ⟨ad456, e456, hx456_0⟩ := Kd.at_string (Kd.R_reads' HO_19.out).2.2 x21_2 p456 q456
                              cases e456
                              replace p456 := eq_true p456
                              replace q456 := eq_true q456
                              go_wp2_with (first | ((with_reducible refine gate_callee (f := 55) rfl ?_); refine goesL_ (some 28) rfl rfl Tryz.func55 (by kernel_rfl) rfl #[.string (rdOf ByteArray.empty t453 x21_2), .string (⟨#[42, 47]⟩ : ByteArray)] rfl (by (try simp only [List.map_toArray, List.map_cons, List.map_nil]); first | done | rfl | (simp only [List.length_drop, List.length_take]; rfl)) ?_; (with_reducible refine (gronx_zzContainsAny.calls k2 (rdOf ByteArray.empty t453 x21_2) (⟨#[42, 47]⟩ : ByteArray) true _ A13.out).mono ?_); rintro e w' ⟨rfl, ⟨nd, rfl⟩⟩; refine ⟨_, rfl, ?_⟩) | ((with_reducible refine gate_callee (f := 56) rfl ?_); refine goesL_ (some 30) rfl rfl Tryz.func56 (by kernel_rfl) rfl #[.string (rdOf ByteArray.empty t453 x21_2), .string (⟨#[47]⟩ : ByteArray)] rfl (by (try simp only [List.map_toArray, List.map_cons, List.map_nil]); first | done | rfl | (simp only [List.length_drop, List.length_take]; rfl)) ?_; (with_reducible refine (gronx_zzContains.calls k2 (rdOf ByteArray.empty t453 x21_2) (⟨#[47]⟩ : ByteArray) false _ A15.out).mono ?_); rintro e w' ⟨rfl, ⟨nd, rfl⟩⟩; refine ⟨_, rfl, ?_⟩))
                              go_roundg k2
                              case measure => have := HK1.out; have := HK2.out; omega
                              case rel => exact ⟨(wrap64 (x21_2 + 1)), (by first | rfl | (simp; done) | (simp [*]; done)), H', ⟨by have := HK1.out; have := HK2.out; omega⟩, ⟨by (with_reducible repeat (first | apply Kd.R_alloc | apply Kd.R_drewN | apply Kd.R_drew)); exact HO_19.out⟩, ⟨by repeat (first | (with_reducible first | exact HB.out | apply below_alloc | apply pw_below_drewN | apply below_drew1) | exact HB.out)⟩⟩
                          · replace c14 := Bool.eq_false_iff.mpr c14
                            subst c14
                            have H1 : (gronx_isSyntaxValid.l1 k2 l0 (l0.length : Int) x11_1 t453 (t453.length : Int) (wrap64 (x21_2 + 1))) = some r := by rw [if_neg (show ¬ (false = true) by decide)] at H; exact H
                            clear H
                            have H := H1
                            clear H1
                            have H' := Aside0.mk H
                            clear H
                            have p456 : 0 ≤ (x21_2 : Int) := of_decide_eq_true (by first | (with_reducible assumption) | assumption)
                            have q456 : x21_2 < (t453.length : Int) := of_decide_eq_true (by first | (with_reducible assumption) | assumption)
                            obtain ⟨ad456, e456, hx456_0⟩ := Kd.at_string (Kd.R_reads' HO_19.out).2.2 x21_2 p456 q456
                            cases e456
                            replace p456 := eq_true p456
                            replace q456 := eq_true q456
                            go_wp2_with (first | ((with_reducible refine gate_callee (f := 55) rfl ?_); refine goesL_ (some 28) rfl rfl Tryz.func55 (by kernel_rfl) rfl #[.string (rdOf ByteArray.empty t453 x21_2), .string (⟨#[42, 47]⟩ : ByteArray)] rfl (by (try simp only [List.map_toArray, List.map_cons, List.map_nil]); first | done | rfl | (simp only [List.length_drop, List.length_take]; rfl)) ?_; (with_reducible refine (gronx_zzContainsAny.calls k2 (rdOf ByteArray.empty t453 x21_2) (⟨#[42, 47]⟩ : ByteArray) false _ A13.out).mono ?_); rintro e w' ⟨rfl, ⟨nd, rfl⟩⟩; refine ⟨_, rfl, ?_⟩))
                            go_roundg k2
                            case measure => have := HK1.out; have := HK2.out; omega
                            case rel => exact ⟨(wrap64 (x21_2 + 1)), (by first | rfl | (simp; done) | (simp [*]; done)), H', ⟨by have := HK1.out; have := HK2.out; omega⟩, ⟨by (with_reducible repeat (first | apply Kd.R_alloc | apply Kd.R_drewN | apply Kd.R_drew)); exact HO_19.out⟩, ⟨by repeat (first | (with_reducible first | exact HB.out | apply below_alloc | apply pw_below_drewN | apply below_drew1) | exact HB.out)⟩⟩
                      · rw [if_neg c11] at H
                        exact absurd H (by simp)
                    · rw [if_neg c10] at H
                      exact absurd H (by simp)
                  · rw [if_neg c9] at H
                    have c9b0 : decide (x21_2 < (t453.length : Int)) = false := decide_eq_false c9
                    clear c9
                    have H' := Aside0.mk H
                    clear H
                    go_wp2
                    go_roundg k2
                    case measure => have := HK1.out; have := HK2.out; omega
                    case rel => exact ⟨(wrap64 (x11_1 + 1)), (by first | rfl | (simp; done) | (simp [*]; done)), H', ⟨by have := HK1.out; have := HK2.out; omega⟩, ⟨by repeat (first | (with_reducible first | exact HB.out | apply below_alloc | apply pw_below_drewN | apply below_drew1) | exact HB.out)⟩⟩
          · rw [if_neg c4] at H
            exact absurd H (by simp)
        · rw [if_neg c3] at H
          exact absurd H (by simp)
      · rw [if_neg c2] at H
        have c2b0 : decide (x11_1 < (l0.length : Int)) = false := decide_eq_false c2
        clear c2
        obtain rfl := Option.some.inj H
        go_wp2
        go_ret
        exact ⟨by first | rfl | (simp [errW_none, errW_some] <;> rfl) | (simp [*, errW_none, errW_some] <;> rfl), by repeat (first | (with_reducible first | exact HB.out | apply below_alloc | apply pw_below_drewN | apply below_drew1) | exact HB.out)⟩
end Go.Proofs.YtkhgeonlohafgaaGreatDoor.Core
namespace Go.Proofs.YtkhgeonlohafgaaGreatDoor.Core
open Go.RowKit Go.Proofs.YtkhgeonlohafgaaGreatDoorW.PrintWords
theorem any_from (l m : List UInt8) (hl : l.length < 4611686018427387904) (hm : m.length < 4611686018427387904) :
    ∀ (rest : List UInt8) (i : Nat), l.drop i = rest → i ≤ l.length → Ev (fun k => gronx_zzContainsAny.l0 k (B l) (B m) (i : Int)) (rest.any fun b => m.contains b) := by
  intro rest
  induction rest with
  | nil =>
    intro i hi hil
    have hlen : l.length ≤ i := List.drop_eq_nil_iff.1 hi
    refine Ev.done fun k => ?_
    simp only [gronx_zzContainsAny.l0, B_size]
    rw [if_neg (by omega)]
    rfl
  | cons b t ih =>
    intro i hi hil
    have hlen : t.length + 1 = l.length - i := by have := congrArg List.length hi; simpa using this.symm
    have hlt : i < l.length := by omega
    have hb : l[i] = b := by
      have := List.drop_eq_getElem_cons hlt
      rw [hi] at this
      exact (List.cons.inj this).1.symm
    have ht : l.drop (i + 1) = t := by rw [← List.drop_drop, hi]; rfl
    have hrec := ih (i + 1) ht (by omega)
    have inner : ∀ (rm : List UInt8) (j : Nat), m.drop j = rm → j ≤ m.length → Ev (fun k => gronx_zzContainsAny.l1 k (B l) (B m) (i : Int) (j : Int)) (rm.contains b || t.any fun b => m.contains b) := by
      intro rm
      induction rm with
      | nil =>
        intro j hj hjl
        have hlen : m.length ≤ j := List.drop_eq_nil_iff.1 hj
        refine Ev.step (f := fun k => gronx_zzContainsAny.l0 k (B l) (B m) ((i + 1 : Nat) : Int)) (fun k => ?_) (by simpa using hrec)
        simp only [gronx_zzContainsAny.l1, B_size]
        rw [if_neg (by omega), wrap64_nat i (by omega)]
      | cons c s ihs =>
        intro j hj hjl
        have hlen : s.length + 1 = m.length - j := by have := congrArg List.length hj; simpa using this.symm
        have hjt : j < m.length := by omega
        have hc : m[j] = c := by
          have := List.drop_eq_getElem_cons hjt
          rw [hj] at this
          exact (List.cons.inj this).1.symm
        have hs : m.drop (j + 1) = s := by rw [← List.drop_drop, hj]; rfl
        have e1 : bt (B l) (i : Int) = (b.toNat : Int) := by rw [bt_B_at l i hlt, hb]
        have e2 : bt (B m) (j : Int) = (c.toNat : Int) := by rw [bt_B_at m j hjt, hc]
        by_cases hbc : b = c
        · refine Ev.done fun k => ?_
          simp only [gronx_zzContainsAny.l1, B_size, e1, e2]
          rw [if_pos (by omega), if_pos (by omega), if_pos (by omega), if_pos (by omega), if_pos (by rw [hbc])]
          simp [hbc]
        · have hne : ¬ ((b.toNat : Int) = (c.toNat : Int)) := fun e => hbc (UInt8.toNat_inj.1 (by omega))
          refine Ev.step (f := fun k => gronx_zzContainsAny.l1 k (B l) (B m) (i : Int) ((j + 1 : Nat) : Int)) (fun k => ?_) (by simpa [hbc] using ihs (j + 1) hs (by omega))
          simp only [gronx_zzContainsAny.l1, B_size, e1, e2]
          rw [if_pos (by omega), if_pos (by omega), if_pos (by omega), if_pos (by omega), if_neg hne, wrap64_nat j (by omega)]
    refine Ev.step (f := fun k => gronx_zzContainsAny.l1 k (B l) (B m) (i : Int) ((0 : Nat) : Int)) (fun k => ?_) (inner m 0 rfl (Nat.zero_le _))
    simp only [gronx_zzContainsAny.l0, B_size]
    rw [if_pos (by omega)]
    rfl
theorem any_ev (l m : List UInt8) (hl : l.length < 4611686018427387904) (hm : m.length < 4611686018427387904) : Ev (fun k => gronx_zzContainsAny.f k (B l) (B m)) (l.any fun b => m.contains b) := any_from l m hl hm l 0 rfl (Nat.zero_le _)
def SynOk (p : List UInt8) : Prop := p ≠ [] ∧ (47 ∈ p → ∃ a b, p = a ++ 47 :: b ∧ 47 ∉ a ∧ 47 ∉ b ∧ b ≠ [])
theorem rdOf_map (P : List (List UInt8)) (j : Nat) (h : j < P.length) : rdOf ByteArray.empty (P.map B) (j : Int) = B P[j] := by simp [rdOf, h]
theorem syn_parts (S : List ByteArray) (n m : Int) (P : List (List UInt8)) (hP : ∀ p ∈ P, SynOk p ∧ p.length < 1000000) (hl : P.length < 1000000) {r : Bool} (hout : Ev (fun k => gronx_isSyntaxValid.l0 k S n (wrap64 (m + 1))) r) :
    ∀ (rest : List (List UInt8)) (j : Nat), P.drop j = rest → j ≤ P.length → Ev (fun k => gronx_isSyntaxValid.l1 k S n m (P.map B) (P.length : Int) (j : Int)) r := by
  intro rest
  induction rest with
  | nil =>
    intro j hj hjl
    have hlen : P.length ≤ j := List.drop_eq_nil_iff.1 hj
    refine Ev.step (fun k => ?_) hout
    simp only [gronx_isSyntaxValid.l1]
    rw [if_neg (by omega)]
  | cons p t ih =>
    intro j hj hjl
    have hlt : j < P.length := by
      rcases Nat.lt_or_ge j P.length with h | h
      · exact h
      · rw [List.drop_eq_nil_of_le h] at hj; cases hj
    have hp : P[j] = p := by
      have := List.drop_eq_getElem_cons hlt
      rw [hj] at this
      exact (List.cons.inj this).1.symm
    have ht : P.drop (j + 1) = t := by rw [← List.drop_drop, hj]; rfl
    have hrd := rdOf_map P j hlt
    rw [hp] at hrd
    obtain ⟨⟨hne, hsl⟩, hpl⟩ := hP p (by rw [← hp]; exact List.getElem_mem hlt)
    have hrec := ih (j + 1) ht (by omega)
    have hw := wrap64_nat j (by omega)
    refine Ev.succ ?_
    simp only [gronx_isSyntaxValid.l1, hrd, hw, B_list, List.length_map]
    refine Ev.congr (fun k => (if_pos (show (j : Int) < (P.length : Int) by omega)).trans ((if_pos (show (0 : Int) ≤ (j : Int) by omega)).trans ((if_pos (show (j : Int) < (P.length : Int) by omega)).trans (if_neg hne)))) ?_
    refine Ev.bind (any_ev p [42, 47] (by omega) (by simp)) ?_
    by_cases h47 : (47 : UInt8) ∈ p
    · obtain ⟨a, b, e, ha, hb, hbn⟩ := hsl h47
      have hany : (p.any fun b => ([42, 47] : List UInt8).contains b) = true := List.any_eq_true.2 ⟨47, h47, by simp⟩
      rw [hany]
      have hc := contains_yes 47 a b ha (by rw [← e]; omega)
      have hs := split_two' 47 a b ha hb (by rw [← e]; omega)
      rw [← e] at hc hs
      refine Ev.congr (fun k => if_pos rfl) (Ev.bind hc (Ev.congr (fun k => if_pos rfl) (Ev.bind hs ?_)))
      refine Ev.congr (fun k => ?_) hrec
      show (if (2 : Int) = 2 then (if (1 : Int) < 2 then (if (B b).toList = ([] : List UInt8) then some false else _) else none) else some false) = _
      rw [if_pos rfl, if_pos (by omega), B_list, if_neg hbn]
    · have hc := contains_no 47 p h47 (by omega)
      cases hany : (p.any fun b => ([42, 47] : List UInt8).contains b) with
      | true => exact Ev.congr (fun k => if_pos rfl) (Ev.bind hc (Ev.congr (fun k => if_neg (by simp)) hrec))
      | false => exact Ev.congr (fun k => if_neg (by simp)) hrec
theorem syn_from (S : List (List (List UInt8))) (hS : ∀ P ∈ S, P ≠ [] ∧ P.length < 1000000 ∧ (joinL 44 P).length < 1000000 ∧ ∀ p ∈ P, 44 ∉ p ∧ SynOk p ∧ p.length < 1000000) (hl : S.length < 1000000) :
    ∀ (rest : List (List (List UInt8))) (j : Nat), S.drop j = rest → j ≤ S.length → Ev (fun k => gronx_isSyntaxValid.l0 k (S.map fun P => B (joinL 44 P)) (S.length : Int) (j : Int)) true := by
  intro rest
  induction rest with
  | nil =>
    intro j hj hjl
    have hlen : S.length ≤ j := List.drop_eq_nil_iff.1 hj
    refine Ev.done fun k => ?_
    simp only [gronx_isSyntaxValid.l0]
    rw [if_neg (by omega)]
  | cons P t ih =>
    intro j hj hjl
    have hlt : j < S.length := by
      rcases Nat.lt_or_ge j S.length with h | h
      · exact h
      · rw [List.drop_eq_nil_of_le h] at hj; cases hj
    have hp : S[j] = P := by
      have := List.drop_eq_getElem_cons hlt
      rw [hj] at this
      exact (List.cons.inj this).1.symm
    have ht : S.drop (j + 1) = t := by rw [← List.drop_drop, hj]; rfl
    obtain ⟨hne, hPl, hJl, hP⟩ := hS P (by rw [← hp]; exact List.getElem_mem hlt)
    have hrd : rdOf ByteArray.empty (S.map fun P => B (joinL 44 P)) (j : Int) = B (joinL 44 P) := by simp [rdOf, hlt, hp]
    have hrec := ih (j + 1) ht (by omega)
    have hw := wrap64_nat j (by omega)
    have hjn : joinL 44 P ≠ [] := joinL_ne 44 P hne (fun p hp => (hP p hp).2.1.1)
    have hs := zzSplit_ev 44 (joinL 44 P) (by omega)
    rw [splitL_join 44 P hne (fun p hp => (hP p hp).1)] at hs
    refine Ev.succ ?_
    simp only [gronx_isSyntaxValid.l0, hrd, B_list, List.length_map]
    refine Ev.congr (fun k => (if_pos (show (j : Int) < (S.length : Int) by omega)).trans ((if_pos (show (0 : Int) ≤ (j : Int) by omega)).trans ((if_pos (show (j : Int) < (S.length : Int) by omega)).trans (if_neg hjn)))) (Ev.bind hs ?_)
    rw [List.length_map]
    exact syn_parts _ _ (j : Int) P (fun p hp => ⟨(hP p hp).2.1, (hP p hp).2.2⟩) hPl (by rw [hw]; exact hrec) P 0 rfl (Nat.zero_le _)
theorem syntax_ev (S : List (List (List UInt8))) (hS : ∀ P ∈ S, P ≠ [] ∧ P.length < 1000000 ∧ (joinL 44 P).length < 1000000 ∧ ∀ p ∈ P, 44 ∉ p ∧ SynOk p ∧ p.length < 1000000) (hl : S.length < 1000000) : Ev (fun k => gronx_isSyntaxValid.f k (S.map fun P => B (joinL 44 P))) true := by
  unfold gronx_isSyntaxValid.f
  rw [List.length_map]
  exact syn_from S hS hl S 0 rfl (Nat.zero_le _)
end Go.Proofs.YtkhgeonlohafgaaGreatDoor.Core
namespace Go.Proofs.YtkhgeonlohafgaaGreatDoor.Core
open Go.RowKit Go.Proofs.YtkhgeonlohafgaaGreatDoorW.PrintWords
theorem below_drewNd {w W : World} (h : Below w.heap.size w W) (n : Nat) : Below w.heap.size w (W.drewN n) := below_drewN h n
set_option maxRecDepth 100000 in
set_option maxHeartbeats 800000 in
theorem ck_three (c : Nat) {x y mo d h mi s : Int} (M : Moment' x y mo d h mi s) (seg : ByteArray) (pos : Nat) (hp : pos < 7) (h3 : pos = 3) (k : Nat) (offs : List ByteArray) (hs : gronx_zzSplit.f k seg ⟨#[44]⟩ = some offs) (hn : offs.length < 1000000) (hm : ∀ o ∈ offs, gronx_zzContainsAny.f k o ⟨#[76, 87, 35]⟩ = some false)
    (b er : Bool) (hD : DueL c (posV y mo d h mi s pos) pos offs b er) (w : World) (hc0 : w.cell? ⟨c, 0, none⟩ = some (.int .u64 0)) (hc1 : w.cell? ⟨c, 1, none⟩ = some (.int .i64 x)) (hc2 : w.cell? ⟨c, 2, none⟩ = some (.pointer none)) :
    Calls Tryz.prog 44 #[.pointer (some ⟨c, 0, none⟩), .string seg, .int .i64 (pos : Int)] w fun e w' => ∃ ev, e = .returned (.tuple #[.bool b, ev]) ∧ ErrV er ev ∧ Below w.heap.size w w' := by
  have e3 : ((pos : Int) == 3) = true := by simp; omega
  have e5 : ((pos : Int) == 5) = false := by simp; omega
  clear h3
  have M := Aside0.mk M
  have hs := Aside0.mk hs
  have hD := Aside0.mk hD
  have hp := Aside0.mk hp
  go_enter Tryz.func44, Tryz.ntmps44
  go_wp2_with (go_at_call 57; refine (getRef_w c x _ hc0 hc1 hc2).mono ?_; rintro e w1 ⟨rfl, hb1⟩)
  go_region_held (fun w' => w1.heap.size < w'.heap.size ∧ w'.cell? ⟨w1.heap.size, 0, none⟩ = some (.int .u64 0) ∧ w'.cell? ⟨w1.heap.size, 1, none⟩ = some (.int .i64 x) ∧ w'.cell? ⟨w1.heap.size, 2, none⟩ = some (.pointer none))
    (first | exact SX.below hb2 (by assumption) | exact SX.below hb3 (by assumption) | go_keep | (trace_state; fail)) (first | (go_at_call 58; refine (val_w M.out pos hp.out _).mono ?_; rintro e w2 ⟨rfl, hb2⟩) | (go_at_call 59; refine (location_any x _).mono ?_; rintro e w3 ⟨bl, rfl, hlo, hlu, hb3⟩))
  rename_i hHeld
  clear hHeld
  have HB : Below w.heap.size w w3 := (below_step (below_step (below_drew1 (below_alloc hb1 _)) hb2) hb3)
  have HB := Aside0.mk HB
  clear hb1 hb2 hb3 hlo hlu hc0 hc1 hc2
  go_wp2_with (go_at_call 54; refine (gronx_zzSplit.calls k seg ⟨#[44]⟩ offs _ hs.out).mono ?_; rintro e w4 ⟨v0, rfl, hR, hb4⟩; obtain ⟨A, cc, rfl⟩ := Kd.R_slice hR)
  have HR := Aside0.mk (Kd.R_reads' hR).2.2
  have HB4 := Aside0.mk (below_step HB.out hb4)
  clear hR hb4 HB
  go_loopg [31] offs.length (fun kq v31 w' => ∃ (j : Nat), v31 = .int .i64 (j : Int) ∧ Aside0 (DueL c (posV y mo d h mi s pos) pos (offs.drop j) b er) ∧ Aside0 (kq + j = offs.length) ∧ Aside0 (Below w4.heap.size w4 w'))
  case atStart => exact ⟨0, rfl, hD, ⟨rfl⟩, ⟨by repeat (first | exact Below.refl _ _ | apply below_drew1 | apply pw_below_drewN)⟩⟩
  case round =>
    clear hD
    obtain ⟨j, rfl, HD, HK, HW⟩ := hrel
    by_cases hj : j < offs.length
    · have q : ((j : Int) < (offs.length : Int)) := by omega
      have p0 : 0 ≤ (j : Int) := by omega
      have q0 : decide ((j : Int) < (offs.length : Int)) = true := decide_eq_true q
      obtain ⟨ad, rfl, hx⟩ := Kd.at_string HR.out (j : Int) p0 q
      replace hx := cell_after HW.out hx
      rw [rdOf_nat _ _ hj, Int.toNat_natCast] at hx
      have HD' := HD.out
      rw [List.drop_eq_getElem_cons hj] at HD'
      obtain ⟨b1, e1, hoff, hif⟩ := HD'
      have hmo := Aside0.mk (hm _ (List.getElem_mem hj))
      have hoff := Aside0.mk hoff
      have hif := Aside0.mk hif
      clear HD
      have hb : ∀ W, Below W.heap.size W W := fun W => Below.refl _ _
      cases b1 with
      | true =>
        obtain ⟨rfl, rfl⟩ : b = true ∧ er = e1 := by have := hif.out; simpa using this
        go_wp2_with (first | (go_at_call 55; refine (gronx_zzContainsAny.calls k _ _ false _ hmo.out).mono ?_; rintro e w' ⟨rfl, ⟨nd, rfl⟩⟩) | (go_at_call 60; refine (hoff.out _).mono ?_; rintro e w5 ⟨ev, rfl, hev, hb5⟩))
        go_ret2
        exact ⟨ev, rfl, hev, below_step (below_drewNd (below_step HB4.out HW.out) _) hb5⟩
      | false =>
        cases e1 with
        | true =>
          obtain ⟨rfl, rfl⟩ : b = false ∧ er = true := by have := hif.out; simpa using this
          go_wp2_with (first | (go_at_call 55; refine (gronx_zzContainsAny.calls k _ _ false _ hmo.out).mono ?_; rintro e w' ⟨rfl, ⟨nd, rfl⟩⟩) | (go_at_call 60; refine (hoff.out _).mono ?_; rintro e w5 ⟨ev, rfl, hev, hb5⟩; obtain ⟨te, ve, rfl⟩ := ErrV.err hev))
          go_ret2
          exact ⟨_, rfl, hev, below_step (below_drewNd (below_step HB4.out HW.out) _) hb5⟩
        | false =>
          have hr : DueL c (posV y mo d h mi s pos) pos (offs.drop (j + 1)) b er := by have := hif.out; simpa using this
          have hr := Aside0.mk hr
          go_wp2_with (first | (go_at_call 55; refine (gronx_zzContainsAny.calls k _ _ false _ hmo.out).mono ?_; rintro e w' ⟨rfl, ⟨nd, rfl⟩⟩) | (go_at_call 60; refine (hoff.out _).mono ?_; rintro e w5 ⟨ev, rfl, hev, hb5⟩; obtain rfl := ErrV.nil hev))
          go_roundg (gk - 1)
          case measure => have := HK.out; omega
          case rel => exact ⟨j + 1, by simp, hr, ⟨by have := HK.out; omega⟩, ⟨by repeat (first | exact below_step (below_drewNd HW.out _) hb5 | apply below_drew1 | apply pw_below_drewN)⟩⟩
    · have q0 : decide ((j : Int) < (offs.length : Int)) = false := decide_eq_false (by omega)
      have HD' := HD.out
      rw [List.drop_eq_nil_of_le (by omega)] at HD'
      obtain ⟨rfl, rfl⟩ := HD'
      go_wp2
      go_ret2
      exact ⟨_, rfl, .inl ⟨rfl, rfl⟩, below_step HB4.out HW.out⟩
set_option maxRecDepth 100000 in
set_option maxHeartbeats 800000 in
theorem ck_five (c : Nat) {x y mo d h mi s : Int} (M : Moment' x y mo d h mi s) (seg : ByteArray) (pos : Nat) (hp : pos < 7) (h5 : pos = 5) (k : Nat) (offs : List ByteArray) (hs : gronx_zzSplit.f k seg ⟨#[44]⟩ = some offs) (hn : offs.length < 1000000) (hm : ∀ o ∈ offs, gronx_zzContainsAny.f k o ⟨#[76, 87, 35]⟩ = some false)
    (b er : Bool) (hD : DueL c (posV y mo d h mi s pos) pos offs b er) (w : World) (hc0 : w.cell? ⟨c, 0, none⟩ = some (.int .u64 0)) (hc1 : w.cell? ⟨c, 1, none⟩ = some (.int .i64 x)) (hc2 : w.cell? ⟨c, 2, none⟩ = some (.pointer none)) :
    Calls Tryz.prog 44 #[.pointer (some ⟨c, 0, none⟩), .string seg, .int .i64 (pos : Int)] w fun e w' => ∃ ev, e = .returned (.tuple #[.bool b, ev]) ∧ ErrV er ev ∧ Below w.heap.size w w' := by
  have e3 : ((pos : Int) == 3) = false := by simp; omega
  have e5 : ((pos : Int) == 5) = true := by simp; omega
  clear h5
  have M := Aside0.mk M
  have hs := Aside0.mk hs
  have hD := Aside0.mk hD
  have hp := Aside0.mk hp
  go_enter Tryz.func44, Tryz.ntmps44
  go_wp2_with (go_at_call 57; refine (getRef_w c x _ hc0 hc1 hc2).mono ?_; rintro e w1 ⟨rfl, hb1⟩)
  go_region_held (fun w' => w1.heap.size < w'.heap.size ∧ w'.cell? ⟨w1.heap.size, 0, none⟩ = some (.int .u64 0) ∧ w'.cell? ⟨w1.heap.size, 1, none⟩ = some (.int .i64 x) ∧ w'.cell? ⟨w1.heap.size, 2, none⟩ = some (.pointer none))
    (first | exact SX.below hb2 (by assumption) | exact SX.below hb3 (by assumption) | go_keep | (trace_state; fail)) (first | (go_at_call 58; refine (val_w M.out pos hp.out _).mono ?_; rintro e w2 ⟨rfl, hb2⟩) | (go_at_call 59; refine (location_any x _).mono ?_; rintro e w3 ⟨bl, rfl, hlo, hlu, hb3⟩))
  rename_i hHeld
  clear hHeld
  have HB : Below w.heap.size w w3 := (below_step (below_step (below_drew1 (below_alloc hb1 _)) hb2) hb3)
  have HB := Aside0.mk HB
  clear hb1 hb2 hb3 hlo hlu hc0 hc1 hc2
  go_wp2_with (go_at_call 54; refine (gronx_zzSplit.calls k seg ⟨#[44]⟩ offs _ hs.out).mono ?_; rintro e w4 ⟨v0, rfl, hR, hb4⟩; obtain ⟨A, cc, rfl⟩ := Kd.R_slice hR)
  have HR := Aside0.mk (Kd.R_reads' hR).2.2
  have HB4 := Aside0.mk (below_step HB.out hb4)
  clear hR hb4 HB
  go_loopg [31] offs.length (fun kq v31 w' => ∃ (j : Nat), v31 = .int .i64 (j : Int) ∧ Aside0 (DueL c (posV y mo d h mi s pos) pos (offs.drop j) b er) ∧ Aside0 (kq + j = offs.length) ∧ Aside0 (Below w4.heap.size w4 w'))
  case atStart => exact ⟨0, rfl, hD, ⟨rfl⟩, ⟨by repeat (first | exact Below.refl _ _ | apply below_drew1 | apply pw_below_drewN)⟩⟩
  case round =>
    clear hD
    obtain ⟨j, rfl, HD, HK, HW⟩ := hrel
    by_cases hj : j < offs.length
    · have q : ((j : Int) < (offs.length : Int)) := by omega
      have p0 : 0 ≤ (j : Int) := by omega
      have q0 : decide ((j : Int) < (offs.length : Int)) = true := decide_eq_true q
      obtain ⟨ad, rfl, hx⟩ := Kd.at_string HR.out (j : Int) p0 q
      replace hx := cell_after HW.out hx
      rw [rdOf_nat _ _ hj, Int.toNat_natCast] at hx
      have HD' := HD.out
      rw [List.drop_eq_getElem_cons hj] at HD'
      obtain ⟨b1, e1, hoff, hif⟩ := HD'
      have hmo := Aside0.mk (hm _ (List.getElem_mem hj))
      have hoff := Aside0.mk hoff
      have hif := Aside0.mk hif
      clear HD
      have hb : ∀ W, Below W.heap.size W W := fun W => Below.refl _ _
      cases b1 with
      | true =>
        obtain ⟨rfl, rfl⟩ : b = true ∧ er = e1 := by have := hif.out; simpa using this
        go_wp2_with (first | (go_at_call 55; refine (gronx_zzContainsAny.calls k _ _ false _ hmo.out).mono ?_; rintro e w' ⟨rfl, ⟨nd, rfl⟩⟩) | (go_at_call 60; refine (hoff.out _).mono ?_; rintro e w5 ⟨ev, rfl, hev, hb5⟩))
        go_ret2
        exact ⟨ev, rfl, hev, below_step (below_drewNd (below_step HB4.out HW.out) _) hb5⟩
      | false =>
        cases e1 with
        | true =>
          obtain ⟨rfl, rfl⟩ : b = false ∧ er = true := by have := hif.out; simpa using this
          go_wp2_with (first | (go_at_call 55; refine (gronx_zzContainsAny.calls k _ _ false _ hmo.out).mono ?_; rintro e w' ⟨rfl, ⟨nd, rfl⟩⟩) | (go_at_call 60; refine (hoff.out _).mono ?_; rintro e w5 ⟨ev, rfl, hev, hb5⟩; obtain ⟨te, ve, rfl⟩ := ErrV.err hev))
          go_ret2
          exact ⟨_, rfl, hev, below_step (below_drewNd (below_step HB4.out HW.out) _) hb5⟩
        | false =>
          have hr : DueL c (posV y mo d h mi s pos) pos (offs.drop (j + 1)) b er := by have := hif.out; simpa using this
          have hr := Aside0.mk hr
          go_wp2_with (first | (go_at_call 55; refine (gronx_zzContainsAny.calls k _ _ false _ hmo.out).mono ?_; rintro e w' ⟨rfl, ⟨nd, rfl⟩⟩) | (go_at_call 60; refine (hoff.out _).mono ?_; rintro e w5 ⟨ev, rfl, hev, hb5⟩; obtain rfl := ErrV.nil hev))
          go_roundg (gk - 1)
          case measure => have := HK.out; omega
          case rel => exact ⟨j + 1, by simp, hr, ⟨by have := HK.out; omega⟩, ⟨by repeat (first | exact below_step (below_drewNd HW.out _) hb5 | apply below_drew1 | apply pw_below_drewN)⟩⟩
    · have q0 : decide ((j : Int) < (offs.length : Int)) = false := decide_eq_false (by omega)
      have HD' := HD.out
      rw [List.drop_eq_nil_of_le (by omega)] at HD'
      obtain ⟨rfl, rfl⟩ := HD'
      go_wp2
      go_ret2
      exact ⟨_, rfl, .inl ⟨rfl, rfl⟩, below_step HB4.out HW.out⟩
end Go.Proofs.YtkhgeonlohafgaaGreatDoor.Core
namespace Go.Proofs.YtkhgeonlohafgaaGreatDoor.Core
open Go.RowKit Go.Proofs.YtkhgeonlohafgaaGreatDoorW.PrintWords
def SegA (x : Int) (seg : ByteArray) (pos : Nat) (b er : Bool) : Prop := ∀ (c : Nat) (w : World), w.cell? ⟨c, 0, none⟩ = some (.int .u64 0) → w.cell? ⟨c, 1, none⟩ = some (.int .i64 x) → w.cell? ⟨c, 2, none⟩ = some (.pointer none) →
    Calls Tryz.prog 44 #[.pointer (some ⟨c, 0, none⟩), .string seg, .int .i64 (pos : Int)] w fun e w' => ∃ ev, e = .returned (.tuple #[.bool b, ev]) ∧ ErrV er ev ∧ Below w.heap.size w w'
theorem segA_of {x y mo d h mi s : Int} (M : Moment' x y mo d h mi s) (seg : ByteArray) (pos : Nat) (hp : pos < 7) (k : Nat) (offs : List ByteArray) (hs : gronx_zzSplit.f k seg ⟨#[44]⟩ = some offs) (hn : offs.length < 1000000)
    (hm : pos = 3 ∨ pos = 5 → ∀ o ∈ offs, gronx_zzContainsAny.f k o ⟨#[76, 87, 35]⟩ = some false) (b er : Bool) (hD : ∀ c, DueL c (posV y mo d h mi s pos) pos offs b er) : SegA x seg pos b er := by
  intro c w h0 h1 h2
  by_cases h3 : pos = 3
  · exact ck_three c M seg pos hp h3 k offs hs hn (hm (.inl h3)) b er (hD c) w h0 h1 h2
  · by_cases h5 : pos = 5
    · exact ck_five c M seg pos hp h5 k offs hs hn (hm (.inr h5)) b er (hD c) w h0 h1 h2
    · exact ck_other c M seg pos hp h3 h5 k offs hs hn b er (hD c) w h0 h1 h2
def ValidL (x : Int) : Nat → List ByteArray → Bool → Prop
  | _, [], r => r = true
  | p, s :: t, r => ∃ b er, SegA x s p b er ∧ (if er = true then r = false else ValidL x (p + 1) t r)
set_option maxRecDepth 100000 in
theorem isValid_w (x : Int) (expr : ByteArray) (k : Nat) (segs : List ByteArray) (hS : gronx_Segments.f k expr = some (segs, none)) (hn : segs.length < 1000000) (hV : gronx_isSyntaxValid.f k segs = some true) (r : Bool) (hL : ValidL x 0 segs r) (w : World) :
    Calls Tryz.prog 31 #[.string expr, .agg #[.int .u64 0, .int .i64 x, .pointer none]] w fun e w' => e = .returned (.bool r) ∧ Below w.heap.size w w' := by
  have hS := Aside0.mk hS
  have hV := Aside0.mk hV
  have hL := Aside0.mk hL
  go_enter Tryz.func31, Tryz.ntmps31
  go_wp2_with (first | (go_at_call 36; refine (gronx_Segments.calls k expr segs none _ hS.out).mono ?_; rintro e w1 ⟨v0, rfl, hR, hb1⟩; obtain ⟨A, cc, rfl⟩ := Kd.R_slice hR; rw [errW_none]) | (go_at_call 43; refine (gronx_isSyntaxValid.calls k A cc segs true _ (Kd.R_reads' hR).2.2 (Kd.R_reads' hR).2.1 hV.out).mono ?_; rintro e w2 ⟨rfl, hb2⟩))
  have HB1 : Below w.heap.size w w1 := below_step (below_alloc (below_alloc (Below.refl _ _) _) _) hb1
  have HB2 := Aside0.mk (below_step HB1 hb2)
  have c0 : w1.cell? ⟨w.heap.size + 1, 0, none⟩ = some (.int .u64 0) := cell_after hb1 (by go_simp)
  have c1 : w1.cell? ⟨w.heap.size + 1, 1, none⟩ = some (.int .i64 x) := cell_after hb1 (by go_simp)
  have c2 : w1.cell? ⟨w.heap.size + 1, 2, none⟩ = some (.pointer none) := cell_after hb1 (by go_simp)
  replace c0 := Aside0.mk (cell_after hb2 c0)
  replace c1 := Aside0.mk (cell_after hb2 c1)
  replace c2 := Aside0.mk (cell_after hb2 c2)
  have HR := Aside0.mk (Kd.R_reads' hR).2.2
  have HR2 := Aside0.mk hb2
  clear hb1 hb2 hR HB1
  go_loopg [27] segs.length (fun kq v27 w' => ∃ (j : Nat), v27 = .int .i64 (j : Int) ∧ Aside0 (ValidL x j (segs.drop j) r) ∧ Aside0 (kq + j = segs.length) ∧ Aside0 (Below w2.heap.size w2 w'))
  case atStart => exact ⟨0, rfl, hL, ⟨rfl⟩, ⟨by repeat (first | exact Below.refl _ _ | apply below_drew1 | apply pw_below_drewN)⟩⟩
  case round =>
    clear hL
    obtain ⟨j, rfl, HD, HK, HW⟩ := hrel
    by_cases hj : j < segs.length
    · have q : ((j : Int) < (segs.length : Int)) := by omega
      have p0 : 0 ≤ (j : Int) := by omega
      have q0 : decide ((j : Int) < (segs.length : Int)) = true := decide_eq_true q
      obtain ⟨ad, rfl, hx⟩ := Kd.at_string HR.out (j : Int) p0 q
      replace hx := cell_after HW.out (cell_after HR2.out hx)
      rw [rdOf_nat _ _ hj, Int.toNat_natCast] at hx
      have HD' := HD.out
      rw [List.drop_eq_getElem_cons hj] at HD'
      obtain ⟨b1, e1, hoff, hif⟩ := HD'
      have hoff := Aside0.mk hoff
      have hif := Aside0.mk hif
      clear HD
      cases e1 with
      | true =>
        obtain rfl : r = false := by have := hif.out; simpa using this
        go_wp2_with (go_at_call 44; refine (hoff.out _ _ (cell_after HW.out c0.out) (cell_after HW.out c1.out) (cell_after HW.out c2.out)).mono ?_; rintro e w5 ⟨ev, rfl, hev, hb5⟩; obtain ⟨te, ve, rfl⟩ := ErrV.err hev)
        go_ret
        exact ⟨rfl, below_step (below_step HB2.out HW.out) hb5⟩
      | false =>
        have hr : ValidL x (j + 1) (segs.drop (j + 1)) r := by have := hif.out; simpa using this
        have hr := Aside0.mk hr
        go_wp2_with (go_at_call 44; refine (hoff.out _ _ (cell_after HW.out c0.out) (cell_after HW.out c1.out) (cell_after HW.out c2.out)).mono ?_; rintro e w5 ⟨ev, rfl, hev, hb5⟩; obtain rfl := ErrV.nil hev)
        go_roundg (gk - 1)
        case measure => have := HK.out; omega
        case rel => exact ⟨j + 1, by simp, hr, ⟨by have := HK.out; omega⟩, ⟨by repeat (first | exact below_step HW.out hb5 | apply below_drew1 | apply pw_below_drewN)⟩⟩
    · have q0 : decide ((j : Int) < (segs.length : Int)) = false := decide_eq_false (by omega)
      have HD' := HD.out
      rw [List.drop_eq_nil_of_le (by omega)] at HD'
      obtain rfl : r = true := HD'
      go_wp2
      go_ret
      exact ⟨rfl, below_step HB2.out HW.out⟩
theorem valid_w {y mo d h mi s : Int} (hd : DateOk y mo d) (hc : ClockOk h mi s) (expr : ByteArray) (r : Bool) (hI : ∀ w, Calls Tryz.prog 31 #[.string expr, .agg #[.int .u64 0, .int .i64 (extOf y mo d h mi s), .pointer none]] w fun e w' => e = .returned (.bool r) ∧ Below w.heap.size w w') (w : World) :
    Calls Tryz.prog 14 #[.string expr, .agg #[.int .i64 y, .int .i64 mo, .int .i64 d, .int .i64 h, .int .i64 mi, .int .i64 s]] w fun e w' => e = .returned (.bool r) ∧ Below w.heap.size w w' := by
  have hd := Aside0.mk hd
  have hc := Aside0.mk hc
  have hI := Aside0.mk hI
  go_enter Tryz.func14, Tryz.ntmps14
  go_wp2_with (first | (go_at_call 32; refine (timeOf_w hd.out hc.out _).mono ?_; rintro e w1 ⟨rfl, hb1⟩) | (go_at_call 31; refine (hI.out _).mono ?_; rintro e w2 ⟨rfl, hb2⟩))
  go_ret
  exact ⟨rfl, below_step (below_step (below_alloc (Below.refl _ _) _) hb1) hb2⟩
end Go.Proofs.YtkhgeonlohafgaaGreatDoor.Core
namespace Go.Proofs.YtkhgeonlohafgaaGreatDoor.Core
open Go.RowKit Go.Proofs.YtkhgeonlohafgaaGreatDoorW.PrintWords
end Go.Proofs.YtkhgeonlohafgaaGreatDoor.Core
namespace Go.Proofs.YtkhgeonlohafgaaGreatDoor.Core
open Go.RowKit
end Go.Proofs.YtkhgeonlohafgaaGreatDoor.Core
namespace Go.Proofs.YtkhgeonlohafgaaGreatDoor.Core
open Go.RowKit Go.Proofs.YtkhgeonlohafgaaGreatDoorW.PrintWords
def SD (G C R : Nat) (x : Int) (w' : World) : Prop := w'.cell? ⟨G, 0, none⟩ = some (.iface 83 (.pointer (some ⟨C, 0, none⟩))) ∧ w'.cell? ⟨R, 0, none⟩ = some (.int .u64 0) ∧ w'.cell? ⟨R, 1, none⟩ = some (.int .i64 x) ∧ w'.cell? ⟨R, 2, none⟩ = some (.pointer none)
theorem SD.set {G C R j : Nat} {x : Int} {w : World} {v : Value} (hCG : C ≠ G) (hCR : C ≠ R) (h : SD G C R x w) : SD G C R x (w.setCell ⟨C, j, none⟩ v) :=
  ⟨(set_other (fun h => hCG (congrArg Addr.block h))).trans h.1, (set_other (fun h => hCR (congrArg Addr.block h))).trans h.2.1, (set_other (fun h => hCR (congrArg Addr.block h))).trans h.2.2.1, (set_other (fun h => hCR (congrArg Addr.block h))).trans h.2.2.2⟩
theorem SD.alloc {G C R : Nat} {x : Int} {w : World} (o : Obj) (h : SD G C R x w) : SD G C R x (w.alloc o) :=
  have hb : Below w.heap.size w (w.alloc o) := (Below.refl _ _).alloc (Nat.le_refl _) o
  ⟨cell_after hb h.1, cell_after hb h.2.1, cell_after hb h.2.2.1, cell_after hb h.2.2.2⟩
end Go.Proofs.YtkhgeonlohafgaaGreatDoor.Core
namespace Go.Proofs.YtkhgeonlohafgaaGreatDoor.Core
open Go.RowKit Go.Proofs.YtkhgeonlohafgaaGreatDoorW.PrintWords
end Go.Proofs.YtkhgeonlohafgaaGreatDoor.Core
namespace Go.Proofs.YtkhgeonlohafgaaGreatDoor.Core
open Go.RowKit
def DueC (t : ByteArray) (y mo d h mi s : Int) (b ok : Bool) : Prop := ∀ w, Calls Tryz.prog 24 #[.string t, .agg #[.int .i64 y, .int .i64 mo, .int .i64 d, .int .i64 h, .int .i64 mi, .int .i64 s]] w fun e w' => e = .returned (.tuple #[.bool b, .bool ok]) ∧ Below w.heap.size w w'
open Classical in
noncomputable def impl_Due.f (t : ByteArray) (y mo d h mi s : Int) : Option (Bool × Bool) :=
  if hx : ∃ p : Bool × Bool, DueC t y mo d h mi s p.1 p.2 then some (Classical.choose hx) else none
theorem DueC.eq {t : ByteArray} {y mo d h mi s : Int} {b ok : Bool} (hd : DueC t y mo d h mi s b ok) : impl_Due.f t y mo d h mi s = some (b, ok) := by
  have hx : ∃ p : Bool × Bool, DueC t y mo d h mi s p.1 p.2 := ⟨(b, ok), hd⟩
  unfold impl_Due.f
  rw [dif_pos hx]
  have hp := Classical.choose_spec hx
  have e := calls_one (hp default) (hd default) (by kernel_rfl)
  injection e with e
  generalize Classical.choose hx = p at e
  obtain ⟨p1, p2⟩ := p
  simp at e
  rw [e.1, e.2]
end Go.Proofs.YtkhgeonlohafgaaGreatDoor.Core
namespace Go.Proofs.YtkhgeonlohafgaaGreatDoor.Core
open Go.RowKit Go.Proofs.YtkhgeonlohafgaaGreatDoorW.PrintWords
def SM (n : Nat) (y mo d h mi s : Int) (w' : World) : Prop := n < w'.heap.size ∧ w'.cell? ⟨n, 0, none⟩ = some (.int .i64 y) ∧ w'.cell? ⟨n, 1, none⟩ = some (.int .i64 mo) ∧ w'.cell? ⟨n, 2, none⟩ = some (.int .i64 d) ∧ w'.cell? ⟨n, 3, none⟩ = some (.int .i64 h) ∧ w'.cell? ⟨n, 4, none⟩ = some (.int .i64 mi) ∧ w'.cell? ⟨n, 5, none⟩ = some (.int .i64 s)
theorem SM.below {n B : Nat} {y mo d h mi s : Int} {a b : World} (hb : Below B a b) (hn : n < B) (hS : SM n y mo d h mi s a) : SM n y mo d h mi s b := by
  have hk := fun j v (e : a.cell? ⟨n, j, none⟩ = some v) => (show b.cell? ⟨n, j, none⟩ = some v by rw [← e]; simp only [World.cell?, hb.block n hn])
  obtain ⟨h0, h1, h2, h3, h4, h5, h6⟩ := hS
  exact ⟨Nat.lt_of_lt_of_le h0 hb.size, hk _ _ h1, hk _ _ h2, hk _ _ h3, hk _ _ h4, hk _ _ h5, hk _ _ h6⟩
theorem SM.step {n : Nat} {y mo d h mi s : Int} {a b : World} (hb : Below a.heap.size a b) (hS : SM n y mo d h mi s a) : SM n y mo d h mi s b := SM.below hb hS.1 hS
theorem SM.lt {n : Nat} {y mo d h mi s : Int} {a : World} (hS : SM n y mo d h mi s a) : n < a.heap.size := hS.1
end Go.Proofs.YtkhgeonlohafgaaGreatDoor.Core
namespace Go.Proofs.YtkhgeonlohafgaaGreatDoor.Core
open Go.RowKit Go.Proofs.YtkhgeonlohafgaaGreatDoorW.PrintWords
theorem ev_all {α β : Type} (l : List α) (F : α → Nat → Option β) (r : α → β) (h : ∀ a ∈ l, Ev (F a) (r a)) : ∃ K, ∀ k, K ≤ k → ∀ a ∈ l, F a k = some (r a) := by
  induction l with
  | nil => exact ⟨0, fun _ _ _ ha => by cases ha⟩
  | cons x t ih =>
    obtain ⟨K, hK⟩ := ih (fun a ha => h a (by simp [ha]))
    obtain ⟨L, hL⟩ := h x (by simp)
    refine ⟨max K L, fun k hk a ha => ?_⟩
    rcases List.mem_cons.1 ha with rfl | ha
    · exact hL k (by omega)
    · exact hK k (by omega) a ha
theorem segA_parts {x y mo d h mi s : Int} (M : Moment' x y mo d h mi s) (pos : Nat) (hp : pos < 7) (P : List (List UInt8)) (hne : P ≠ []) (h44 : ∀ p ∈ P, 44 ∉ p) (hl : (joinL 44 P).length < 1000000) (hn : P.length < 1000000) (hm : ∀ p ∈ P, p.length < 1000000 ∧ ∀ b ∈ p, b ≠ 76 ∧ b ≠ 87 ∧ b ≠ 35)
    (b er : Bool) (hD : ∀ c, DueL c (posV y mo d h mi s pos) pos (P.map B) b er) : SegA x (B (joinL 44 P)) pos b er := by
  have hs := zzSplit_ev 44 (joinL 44 P) (by omega)
  rw [splitL_join 44 P hne h44] at hs
  obtain ⟨K1, hK1⟩ := hs
  obtain ⟨K2, hK2⟩ := ev_all P (fun p k => gronx_zzContainsAny.f k (B p) (B [76, 87, 35])) (fun _ => false) (fun p hp => by
    have := any_ev p [76, 87, 35] (by have := (hm p hp).1; omega) (by simp)
    rw [show (p.any fun b => ([76, 87, 35] : List UInt8).contains b) = false by
      rw [List.any_eq_false]
      intro b hb
      have := (hm p hp).2 b hb
      simp [this.1, this.2.1, this.2.2]] at this
    exact this)
  refine segA_of M _ pos hp (max K1 K2) (P.map B) (hK1 _ (by omega)) (by rw [List.length_map]; exact hn) (fun _ o ho => ?_) b er hD
  obtain ⟨p, hp, rfl⟩ := List.mem_map.1 ho
  exact hK2 _ (by omega) p hp
end Go.Proofs.YtkhgeonlohafgaaGreatDoor.Core
namespace Go.Proofs.YtkhgeonlohafgaaGreatDoor.Core
open Go.RowKit Go.Proofs.YtkhgeonlohafgaaGreatDoorW.PrintWords
end Go.Proofs.YtkhgeonlohafgaaGreatDoor.Core
namespace Go.Proofs.YtkhgeonlohafgaaGreatDoor.Core
open Go.RowKit Go.Proofs.YtkhgeonlohafgaaGreatDoorW.PrintWords
end Go.Proofs.YtkhgeonlohafgaaGreatDoor.Core
namespace Go.Proofs.YtkhgeonlohafgaaGreatDoor.Core
open Go.RowKit Go.Proofs.YtkhgeonlohafgaaGreatDoorW.PrintWords
set_option maxRecDepth 100000 in
set_option maxHeartbeats 2000000 in
theorem mg_5 (y mo d h mi s : Int) (a0 : 1990 ≤ y) (a1 : y ≤ 2090) (a2 : 1 ≤ mo) (a3 : mo ≤ 12) (a4 : 1 ≤ d) (a5 : ¬ d ≤ daysI y mo) : GoodC y mo d h mi s false := by
  intro w
  have hdy := Aside0.mk (days_some y mo (by omega) a2 a3)
  replace a5 : (d ≤ daysI y mo) = False := eq_false a5
  go_enter Tryz.func12, Tryz.ntmps12
  go_wp2
  go_quiet (first | (go_at_call 29; exact days_quiet y mo hdy.out _ _))
  go_wp2
  go_ret
  exact ⟨rfl, by repeat (first | exact Below.refl _ _ | apply below_alloc | apply below_drew1 | apply pw_below_drewN)⟩
set_option maxRecDepth 100000 in
set_option maxHeartbeats 2000000 in
theorem mg_6 (y mo d h mi s : Int) (a0 : 1990 ≤ y) (a1 : y ≤ 2090) (a2 : 1 ≤ mo) (a3 : mo ≤ 12) (a4 : 1 ≤ d) (a5 : d ≤ daysI y mo) (a6 : ¬ 0 ≤ h) : GoodC y mo d h mi s false := by
  intro w
  have hdy := Aside0.mk (days_some y mo (by omega) a2 a3)
  replace a6 : (0 ≤ h) = False := eq_false a6
  go_enter Tryz.func12, Tryz.ntmps12
  go_wp2
  go_quiet (first | (go_at_call 29; exact days_quiet y mo hdy.out _ _))
  go_wp2
  go_ret
  exact ⟨rfl, by repeat (first | exact Below.refl _ _ | apply below_alloc | apply below_drew1 | apply pw_below_drewN)⟩
end Go.Proofs.YtkhgeonlohafgaaGreatDoor.Core
namespace Go.Proofs.YtkhgeonlohafgaaGreatDoor.Core
open Go.RowKit Go.Proofs.YtkhgeonlohafgaaGreatDoorW.PrintWords
set_option maxRecDepth 100000 in
set_option maxHeartbeats 2000000 in
theorem mg_7 (y mo d h mi s : Int) (a0 : 1990 ≤ y) (a1 : y ≤ 2090) (a2 : 1 ≤ mo) (a3 : mo ≤ 12) (a4 : 1 ≤ d) (a5 : d ≤ daysI y mo) (a6 : 0 ≤ h) (a7 : ¬ h ≤ 23) : GoodC y mo d h mi s false := by
  intro w
  have hdy := Aside0.mk (days_some y mo (by omega) a2 a3)
  replace a7 : (h ≤ 23) = False := eq_false a7
  go_enter Tryz.func12, Tryz.ntmps12
  go_wp2
  go_quiet (first | (go_at_call 29; exact days_quiet y mo hdy.out _ _))
  go_wp2
  go_ret
  exact ⟨rfl, by repeat (first | exact Below.refl _ _ | apply below_alloc | apply below_drew1 | apply pw_below_drewN)⟩
set_option maxRecDepth 100000 in
set_option maxHeartbeats 2000000 in
theorem mg_8 (y mo d h mi s : Int) (a0 : 1990 ≤ y) (a1 : y ≤ 2090) (a2 : 1 ≤ mo) (a3 : mo ≤ 12) (a4 : 1 ≤ d) (a5 : d ≤ daysI y mo) (a6 : 0 ≤ h) (a7 : h ≤ 23) (a8 : ¬ 0 ≤ mi) : GoodC y mo d h mi s false := by
  intro w
  have hdy := Aside0.mk (days_some y mo (by omega) a2 a3)
  replace a8 : (0 ≤ mi) = False := eq_false a8
  go_enter Tryz.func12, Tryz.ntmps12
  go_wp2
  go_quiet (first | (go_at_call 29; exact days_quiet y mo hdy.out _ _))
  go_wp2
  go_ret
  exact ⟨rfl, by repeat (first | exact Below.refl _ _ | apply below_alloc | apply below_drew1 | apply pw_below_drewN)⟩
end Go.Proofs.YtkhgeonlohafgaaGreatDoor.Core
namespace Go.Proofs.YtkhgeonlohafgaaGreatDoor.Core
open Go.RowKit Go.Proofs.YtkhgeonlohafgaaGreatDoorW.PrintWords
set_option maxRecDepth 100000 in
set_option maxHeartbeats 2000000 in
theorem mg_9 (y mo d h mi s : Int) (a0 : 1990 ≤ y) (a1 : y ≤ 2090) (a2 : 1 ≤ mo) (a3 : mo ≤ 12) (a4 : 1 ≤ d) (a5 : d ≤ daysI y mo) (a6 : 0 ≤ h) (a7 : h ≤ 23) (a8 : 0 ≤ mi) (a9 : ¬ mi ≤ 59) : GoodC y mo d h mi s false := by
  intro w
  have hdy := Aside0.mk (days_some y mo (by omega) a2 a3)
  replace a9 : (mi ≤ 59) = False := eq_false a9
  go_enter Tryz.func12, Tryz.ntmps12
  go_wp2
  go_quiet (first | (go_at_call 29; exact days_quiet y mo hdy.out _ _))
  go_wp2
  go_ret
  exact ⟨rfl, by repeat (first | exact Below.refl _ _ | apply below_alloc | apply below_drew1 | apply pw_below_drewN)⟩
set_option maxRecDepth 100000 in
set_option maxHeartbeats 2000000 in
theorem mg_10 (y mo d h mi s : Int) (a0 : 1990 ≤ y) (a1 : y ≤ 2090) (a2 : 1 ≤ mo) (a3 : mo ≤ 12) (a4 : 1 ≤ d) (a5 : d ≤ daysI y mo) (a6 : 0 ≤ h) (a7 : h ≤ 23) (a8 : 0 ≤ mi) (a9 : mi ≤ 59) (a10 : ¬ 0 ≤ s) : GoodC y mo d h mi s false := by
  intro w
  have hdy := Aside0.mk (days_some y mo (by omega) a2 a3)
  replace a10 : (0 ≤ s) = False := eq_false a10
  go_enter Tryz.func12, Tryz.ntmps12
  go_wp2
  go_quiet (first | (go_at_call 29; exact days_quiet y mo hdy.out _ _))
  go_wp2
  go_ret
  exact ⟨rfl, by repeat (first | exact Below.refl _ _ | apply below_alloc | apply below_drew1 | apply pw_below_drewN)⟩
end Go.Proofs.YtkhgeonlohafgaaGreatDoor.Core
namespace Go.Proofs.YtkhgeonlohafgaaGreatDoor.Core
open Go.RowKit Go.Proofs.YtkhgeonlohafgaaGreatDoorW.PrintWords
set_option maxRecDepth 100000 in
set_option maxHeartbeats 2000000 in
theorem mg_11 (y mo d h mi s : Int) (a0 : 1990 ≤ y) (a1 : y ≤ 2090) (a2 : 1 ≤ mo) (a3 : mo ≤ 12) (a4 : 1 ≤ d) (a5 : d ≤ daysI y mo) (a6 : 0 ≤ h) (a7 : h ≤ 23) (a8 : 0 ≤ mi) (a9 : mi ≤ 59) (a10 : 0 ≤ s) (a11 : ¬ s ≤ 59) : GoodC y mo d h mi s false := by
  intro w
  have hdy := Aside0.mk (days_some y mo (by omega) a2 a3)
  replace a11 : (s ≤ 59) = False := eq_false a11
  go_enter Tryz.func12, Tryz.ntmps12
  go_wp2
  go_quiet (first | (go_at_call 29; exact days_quiet y mo hdy.out _ _))
  go_wp2
  go_ret
  exact ⟨rfl, by repeat (first | exact Below.refl _ _ | apply below_alloc | apply below_drew1 | apply pw_below_drewN)⟩
set_option maxRecDepth 100000 in
set_option maxHeartbeats 2000000 in
theorem mg_12 (y mo d h mi s : Int) (a0 : 1990 ≤ y) (a1 : y ≤ 2090) (a2 : 1 ≤ mo) (a3 : mo ≤ 12) (a4 : 1 ≤ d) (a5 : d ≤ daysI y mo) (a6 : 0 ≤ h) (a7 : h ≤ 23) (a8 : 0 ≤ mi) (a9 : mi ≤ 59) (a10 : 0 ≤ s) (a11 : s ≤ 59) : GoodC y mo d h mi s true := by
  intro w
  have hdy := Aside0.mk (days_some y mo (by omega) a2 a3)
  go_enter Tryz.func12, Tryz.ntmps12
  go_wp2
  go_quiet (first | (go_at_call 29; exact days_quiet y mo hdy.out _ _))
  go_wp2
  go_ret
  exact ⟨rfl, by repeat (first | exact Below.refl _ _ | apply below_alloc | apply below_drew1 | apply pw_below_drewN)⟩
end Go.Proofs.YtkhgeonlohafgaaGreatDoor.Core
namespace Go.Proofs.YtkhgeonlohafgaaGreatDoor.Core
open Go.RowKit Go.Proofs.YtkhgeonlohafgaaGreatDoorW.PrintWords
theorem goodM_eq (y mo d h mi s : Int) : spec_MomentGood.f y mo d h mi s = some (goodM y mo d h mi s) := by
  unfold goodM
  by_cases b0 : ¬ 1990 ≤ y
  · rw [(mg_0 y mo d h mi s b0).eq, decide_eq_false (fun e => b0 e.1)]
  have a0 : 1990 ≤ y := Decidable.of_not_not b0
  by_cases b1 : ¬ y ≤ 2090
  · rw [(mg_1 y mo d h mi s a0 b1).eq, decide_eq_false (fun e => b1 e.2.1)]
  have a1 : y ≤ 2090 := Decidable.of_not_not b1
  by_cases b2 : ¬ 1 ≤ mo
  · rw [(mg_2 y mo d h mi s a0 a1 b2).eq, decide_eq_false (fun e => b2 e.2.2.1)]
  have a2 : 1 ≤ mo := Decidable.of_not_not b2
  by_cases b3 : ¬ mo ≤ 12
  · rw [(mg_3 y mo d h mi s a0 a1 a2 b3).eq, decide_eq_false (fun e => b3 e.2.2.2.1)]
  have a3 : mo ≤ 12 := Decidable.of_not_not b3
  by_cases b4 : ¬ 1 ≤ d
  · rw [(mg_4 y mo d h mi s a0 a1 a2 a3 b4).eq, decide_eq_false (fun e => b4 e.2.2.2.2.1)]
  have a4 : 1 ≤ d := Decidable.of_not_not b4
  by_cases b5 : ¬ d ≤ daysI y mo
  · rw [(mg_5 y mo d h mi s a0 a1 a2 a3 a4 b5).eq, decide_eq_false (fun e => b5 e.2.2.2.2.2.1)]
  have a5 : d ≤ daysI y mo := Decidable.of_not_not b5
  by_cases b6 : ¬ 0 ≤ h
  · rw [(mg_6 y mo d h mi s a0 a1 a2 a3 a4 a5 b6).eq, decide_eq_false (fun e => b6 e.2.2.2.2.2.2.1)]
  have a6 : 0 ≤ h := Decidable.of_not_not b6
  by_cases b7 : ¬ h ≤ 23
  · rw [(mg_7 y mo d h mi s a0 a1 a2 a3 a4 a5 a6 b7).eq, decide_eq_false (fun e => b7 e.2.2.2.2.2.2.2.1)]
  have a7 : h ≤ 23 := Decidable.of_not_not b7
  by_cases b8 : ¬ 0 ≤ mi
  · rw [(mg_8 y mo d h mi s a0 a1 a2 a3 a4 a5 a6 a7 b8).eq, decide_eq_false (fun e => b8 e.2.2.2.2.2.2.2.2.1)]
  have a8 : 0 ≤ mi := Decidable.of_not_not b8
  by_cases b9 : ¬ mi ≤ 59
  · rw [(mg_9 y mo d h mi s a0 a1 a2 a3 a4 a5 a6 a7 a8 b9).eq, decide_eq_false (fun e => b9 e.2.2.2.2.2.2.2.2.2.1)]
  have a9 : mi ≤ 59 := Decidable.of_not_not b9
  by_cases b10 : ¬ 0 ≤ s
  · rw [(mg_10 y mo d h mi s a0 a1 a2 a3 a4 a5 a6 a7 a8 a9 b10).eq, decide_eq_false (fun e => b10 e.2.2.2.2.2.2.2.2.2.2.1)]
  have a10 : 0 ≤ s := Decidable.of_not_not b10
  by_cases b11 : ¬ s ≤ 59
  · rw [(mg_11 y mo d h mi s a0 a1 a2 a3 a4 a5 a6 a7 a8 a9 a10 b11).eq, decide_eq_false (fun e => b11 e.2.2.2.2.2.2.2.2.2.2.2)]
  have a11 : s ≤ 59 := Decidable.of_not_not b11
  rw [(mg_12 y mo d h mi s a0 a1 a2 a3 a4 a5 a6 a7 a8 a9 a10 a11).eq, decide_eq_true ⟨a0, a1, a2, a3, a4, a5, a6, a7, a8, a9, a10, a11⟩]
end Go.Proofs.YtkhgeonlohafgaaGreatDoor.Core
namespace Go.Proofs.YtkhgeonlohafgaaGreatDoor.Core
open Go.RowKit Go.Proofs.YtkhgeonlohafgaaGreatDoorW.PrintWords
end Go.Proofs.YtkhgeonlohafgaaGreatDoor.Core
namespace Go.Proofs.YtkhgeonlohafgaaGreatDoor.Core
open Go.RowKit Go.Proofs.YtkhgeonlohafgaaGreatDoorW.PrintWords
theorem goodM_spec {y mo d h mi s : Int} (hM : goodM y mo d h mi s = true) : DateOk y mo d ∧ ClockOk h mi s := by
  obtain ⟨a0, a1, a2, a3, a4, a5, a6, a7, a8, a9, a10, a11⟩ := of_decide_eq_true hM
  exact ⟨⟨by omega, by omega, a2, a3, a4, a5⟩, ⟨a6, a7, a8, a9, a10, a11⟩⟩
end Go.Proofs.YtkhgeonlohafgaaGreatDoor.Core
namespace Go.Proofs.YtkhgeonlohafgaaGreatDoor.Core
open Go.RowKit Go.Proofs.YtkhgeonlohafgaaGreatDoorW.PrintWords
theorem segA_text {x y mo d h mi s : Int} (M : Moment' x y mo d h mi s) (pos : Nat) (hp : pos < 7) (t : List UInt8) (ht : t.length < 1000) (h44 : 44 ∉ t) (hm : ∀ b ∈ t, b ≠ 76 ∧ b ≠ 87 ∧ b ≠ 35) (b : Bool)
    (hb : ∀ c, OffC c (posV y mo d h mi s pos) pos (B t) b false) : SegA x (B t) pos b false := by
  refine segA_parts M pos hp [t] (by simp) (by simpa using h44) (by show t.length < _; omega) (by simp) (fun p hp => by obtain rfl := List.mem_singleton.1 hp; exact ⟨by omega, hm⟩) b false (fun c => ?_)
  refine ⟨b, false, hb c, ?_⟩
  cases b with
  | true => rw [if_pos (Or.inl rfl)]; exact ⟨rfl, rfl⟩
  | false => rw [if_neg (by simp)]; exact ⟨rfl, rfl⟩
theorem segA_num {x y mo d h mi s : Int} (M : Moment' x y mo d h mi s) (pos : Nat) (hp : pos < 6) (n : Nat) (hn : n < 100) (lo : loB pos ≤ (n : Int)) (hi : (n : Int) ≤ hiB pos) (h5 : pos = 5 → n ≤ 6) : SegA x (B (decN n)) pos (decide ((n : Int) = posV y mo d h mi s pos)) false :=
  segA_text M pos (by omega) (decN n) (by have := decN_length n 1 (by omega); omega) (dec_no n 44 (by decide)) (fun b hb => ⟨fun e => dec_no n 76 (by decide) (e ▸ hb), fun e => dec_no n 87 (by decide) (e ▸ hb), fun e => dec_no n 35 (by decide) (e ▸ hb)⟩) _ (fun c => offC_num c n hn pos (by omega) _ lo hi h5)
end Go.Proofs.YtkhgeonlohafgaaGreatDoor.Core
namespace Go.Proofs.YtkhgeonlohafgaaGreatDoor.Core
open Go.RowKit Go.Proofs.YtkhgeonlohafgaaGreatDoorW.PrintWords
theorem errNew_w (t : ByteArray) (w : World) : Calls Tryz.prog 51 #[.string t] w fun e w' => (∃ ty v, e = .returned (.iface ty v)) ∧ Below w.heap.size w w' := by
  go_enter Tryz.func51, Tryz.ntmps51
  go_wp2
  go_ret
  exact ⟨⟨_, _, rfl⟩, by repeat (first | exact Below.refl _ _ | apply below_alloc | apply below_drew1 | apply pw_below_drewN)⟩
end Go.Proofs.YtkhgeonlohafgaaGreatDoor.Core
namespace Go.Proofs.YtkhgeonlohafgaaGreatDoor.Core
open Go.RowKit Go.Proofs.YtkhgeonlohafgaaGreatDoorW.PrintWords
theorem validL_step {x : Int} {p : Nat} {s : ByteArray} {t : List ByteArray} {r b : Bool} (h : SegA x s p b false) (ht : ValidL x (p + 1) t r) : ValidL x p (s :: t) r := ⟨b, false, h, by rw [if_neg (by simp)]; exact ht⟩
theorem segA_star {x y mo d h mi s : Int} (M : Moment' x y mo d h mi s) (pos : Nat) (hp : pos < 7) : SegA x (B [42]) pos true false :=
  segA_text M pos hp [42] (by simp) (by simp) (by simp) true (fun c => offStar_w c _ _)
theorem segA_zero {x y mo d h mi s : Int} (M : Moment' x y mo d h mi s) (pos : Nat) (hp : pos < 3) : ∃ b, SegA x (B [48]) pos b false := by
  have := segA_num M pos (by omega) 0 (by decide) (by unfold loB; rw [if_neg (by omega)]; decide) (by match pos, hp with | 0, _ | 1, _ | 2, _ => decide) (by omega)
  rw [decN_lt 0 (by decide)] at this
  exact ⟨_, this⟩
def Plain44 (p : List UInt8) : Prop := p ≠ [] ∧ (∀ b ∈ p, 33 ≤ b.toNat ∧ b.toNat ≤ 63) ∧ 44 ∉ p ∧ 47 ∉ p ∧ p.length < 1000
theorem syntax_plain (S : List (List UInt8)) (hS : ∀ p ∈ S, Plain44 p) (hl : S.length < 1000000) : Ev (fun k => gronx_isSyntaxValid.f k (S.map B)) true := by
  have h := syntax_ev (S.map fun p => [p]) (fun P hP => by
    obtain ⟨p, hp, rfl⟩ := List.mem_map.1 hP
    obtain ⟨q1, q2, q3, q4, q5⟩ := hS p hp
    refine ⟨by simp, by simp, by show p.length < _; omega, fun q hq => ?_⟩
    obtain rfl := List.mem_singleton.1 hq
    exact ⟨q3, ⟨q1, fun e => absurd e q4⟩, by omega⟩) (by rw [List.length_map]; exact hl)
  rw [List.map_map] at h
  exact h
theorem segs_plain (P : List (List UInt8)) (hP : ∀ p ∈ P, Plain44 p) (h5 : P.length = 5) : Ev (fun k => gronx_Segments.f k (B (joinL 32 P))) (([48] :: P).map B, none) := by
  have hl := joinL_length 32 P 1000 (fun p hp => by have := (hP p hp).2.2.2.2; omega)
  have := segments_ev P (fun p hp => ⟨(hP p hp).1, (hP p hp).2.1⟩) (by omega) (by omega) (by omega) (fun h => by omega)
  rw [if_pos (Or.inl h5)] at this
  exact this
theorem valid_segs {y mo d h mi s : Int} (hd : DateOk y mo d) (hc : ClockOk h mi s) (P : List (List UInt8)) (hP : ∀ p ∈ P, Plain44 p) (h5 : P.length = 5) (r : Bool) (hL : ValidL (extOf y mo d h mi s) 0 (([48] :: P).map B) r) : ValidC (B (joinL 32 P)) y mo d h mi s r := by
  obtain ⟨K1, hK1⟩ := segs_plain P hP h5
  obtain ⟨K2, hK2⟩ := syntax_plain ([48] :: P) (fun p hp => by
    rcases List.mem_cons.1 hp with h | h
    · subst h; exact ⟨by simp, by simp, by simp, by simp, by simp⟩
    · exact hP p h) (by simp; omega)
  exact valid_w hd hc _ r (fun w => isValid_w _ _ (max K1 K2) _ (hK1 _ (by omega)) (by simp; omega) (hK2 _ (by omega)) r hL w)
end Go.Proofs.YtkhgeonlohafgaaGreatDoor.Core
namespace Go.Proofs.YtkhgeonlohafgaaGreatDoor.Core
open Go.RowKit Go.Proofs.YtkhgeonlohafgaaGreatDoorW.PrintWords
set_option maxRecDepth 100000 in
theorem segErr_w (t : ByteArray) (k : Nat) (P : List ByteArray) (hN : gronx_normalize.f k t = some P) (hp : P.length < 5 ∨ 7 < P.length) (hq : P.length < 1000) (w : World) : Calls Tryz.prog 36 #[.string t] w fun e w' => ∃ g ev, e = .returned (.tuple #[.slice (some ⟨g, 0, none⟩) 0 0, ev]) ∧ ErrV true ev ∧ w'.heap[g]? = some (.cells #[] 9 (0, 0)) ∧ w.heap.size ≤ g ∧ Below w.heap.size w w' := by
  have hN := Aside0.mk hN
  by_cases h5 : P.length < 5
  · have e1 : ((P.length : Int) < 5) = True := eq_true (by omega)
    have e2 : (P.length < 5) = True := eq_true h5
    have e3 : decide ((P.length : Int) < 5) = true := decide_eq_true (by omega)
    have e4 : decide (P.length < 5) = true := decide_eq_true h5
    clear hp h5
    go_enter Tryz.func36, Tryz.ntmps36
    go_wp2_with (first | (go_at_call 50; refine (gronx_normalize.calls k _ _ _ hN.out).mono ?_; rintro e w1 ⟨v0, rfl, hR, hb1⟩; obtain ⟨A, cc, rfl⟩ := Kd.R_slice hR) | (go_at_call 51; refine (errNew_w _ _).mono ?_; rintro e w5 ⟨⟨ty, v, rfl⟩, hb5⟩))
    go_ret2
    exact ⟨_, _, rfl, .inr ⟨rfl, ty, v, rfl⟩, (hb5.block _ (by simp)).trans (heap_alloc_new _ _), hb1.size, below_step (below_alloc hb1 _) hb5⟩
  · have e1 : ((P.length : Int) < 5) = False := eq_false (by omega)
    have e2 : (P.length < 5) = False := eq_false h5
    have e3 : decide ((P.length : Int) < 5) = false := decide_eq_false (by omega)
    have e4 : decide (P.length < 5) = false := decide_eq_false h5
    have e5 : (7 < (P.length : Int)) = True := eq_true (by omega)
    have e6 : (7 < P.length) = True := eq_true (by omega)
    have e7 : decide (7 < (P.length : Int)) = true := decide_eq_true (by omega)
    have e8 : decide (7 < P.length) = true := decide_eq_true (by omega)
    have e9 : ((P.length : Int) > 7) = True := eq_true (by omega)
    clear hp h5
    go_enter Tryz.func36, Tryz.ntmps36
    go_wp2_with (first | (go_at_call 50; refine (gronx_normalize.calls k _ _ _ hN.out).mono ?_; rintro e w1 ⟨v0, rfl, hR, hb1⟩; obtain ⟨A, cc, rfl⟩ := Kd.R_slice hR) | (go_at_call 51; refine (errNew_w _ _).mono ?_; rintro e w5 ⟨⟨ty, v, rfl⟩, hb5⟩))
    go_ret2
    exact ⟨_, _, rfl, .inr ⟨rfl, ty, v, rfl⟩, (hb5.block _ (by simp)).trans (heap_alloc_new _ _), hb1.size, below_step (below_alloc hb1 _) hb5⟩
theorem R_none {w w' : World} {g : Nat} (h : w'.heap[g]? = some (.cells #[] 9 (0, 0))) (hg : w.heap.size ≤ g) : Kd.R Kd.string 9 w' w.heap.size (fun _ => True) (.slice (some ⟨g, 0, none⟩) 0 0) [] :=
  ⟨fun _ _ => trivial, [], ⟨by simp, .inr ⟨g, 0, #[], rfl, hg, h, Nat.le_refl _, Nat.zero_le _, by simp, by simp⟩⟩, Reps.none _ _⟩
theorem partsErr_c (t : ByteArray) (k : Nat) (P : List ByteArray) (hN : gronx_normalize.f k t = some P) (hp : P.length < 5 ∨ 7 < P.length) (hq : P.length < 1000) : PartsC t [] false := by
  intro w
  have hN := Aside0.mk hN
  go_enter Tryz.func23, Tryz.ntmps23
  go_wp2_with (first | (go_at_call 36; refine (segErr_w t k P hN.out hp hq _).mono ?_; rintro e w1 ⟨g, ev, rfl, hev, hg, hwg, hb1⟩; obtain ⟨te, ve, rfl⟩ := ErrV.err hev))
  go_region_held (fun _ => True) (trivial) (fail)
  rename_i hHeld2
  clear hHeld2
  go_wp2
  go_ret2
  exact ⟨_, rfl, R_none hg hwg, hb1.drew⟩
theorem partsOk_c (t : ByteArray) (k : Nat) (P : List ByteArray) (hS : gronx_Segments.f k t = some (P, none)) : PartsC t P true := fun w =>
  impl_Parts.calls k t P true w (by unfold impl_Parts.f; rw [hS]; rfl)
theorem validErr_c {y mo d h mi s : Int} (hd : DateOk y mo d) (hc : ClockOk h mi s) (t : ByteArray) (k : Nat) (P : List ByteArray) (hN : gronx_normalize.f k t = some P) (hp : P.length < 5 ∨ 7 < P.length) (hq : P.length < 1000) : ValidC t y mo d h mi s false := by
  refine valid_w hd hc t false (fun w => ?_)
  have hN := Aside0.mk hN
  go_enter Tryz.func31, Tryz.ntmps31
  go_wp2_with (first | (go_at_call 36; refine (segErr_w t k P hN.out hp hq _).mono ?_; rintro e w1 ⟨g, ev, rfl, hev, hg, hwg, hb1⟩; obtain ⟨te, ve, rfl⟩ := ErrV.err hev))
  go_ret
  exact ⟨rfl, below_step (below_alloc (below_alloc (Below.refl _ _) _) _) hb1⟩
end Go.Proofs.YtkhgeonlohafgaaGreatDoor.Core
