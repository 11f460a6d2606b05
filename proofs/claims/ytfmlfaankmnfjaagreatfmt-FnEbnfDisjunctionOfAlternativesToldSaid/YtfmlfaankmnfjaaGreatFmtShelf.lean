/- strings.ToLower on ASCII text, the shelf's contract at this dump's numbers, in plain words (written by the kit's lay-shelf.mjs and lay-plain.mjs). Conditions: the dump is cut with -reflectrows -leanrows. -/
import Derived.Shelf.Strings.Builder1
import Derived.Shelf.Strings.Builder2
import Derived.Shelf.Strings.OnBuilder
import Derived.Shelf.Small.Utf8
import Derived.Shelf.Strings.BuilderF
import Derived.Shelf.Strings.BuilderK
import Derived.Shelf.Strings.Builder2Cap
import Derived.Shelf.Unicode.Latin
import Derived.Shelf.Unicode.Decode
import Derived.Shelf.Unicode.DecodeSlow
import Derived.Shelf.Unicode.DecodeAny
import Derived.Shelf.Unicode.CaseLookup
import Derived.Shelf.Unicode.CaseConvert
import Derived.Shelf.Unicode.CaseTo
import Derived.Shelf.Unicode.CaseLaid
import Derived.Test.YtfmlfaankmnfjaaGreatFmtProg
namespace Go.Proofs
open Go.Shelf
def Tryz.lays159_ren : Go.Shelf.Ren := ⟨fun | 159 => 33 | 165 => 34 | 166 => 35 | 167 => 40 | 169 => 36 | 230 => 41 | 204 => 43 | 240 => 44 | 241 => 45 | 197 => 46 | 118 => 47 | 168 => 48 | 270 => 49 | 262 => 50 | 276 => 51 | 277 => 52 | 260 => 53 | 242 => 54 | 313 => 55 | 278 => 56 | 274 => 57 | 275 => 58 | n => n, fun | 9 => 9 | 4 => 4 | 3 => 3 | 5 => 5 | 72 => 133 | 0 => 0 | 76 => 135 | 75 => 25 | 107 => 141 | 70 => 131 | 20 => 20 | 37 => 35 | 127 => 142 | 21 => 21 | 105 => 143 | 164 => 34 | 162 => 154 | 203 => 152 | 119 => 155 | 46 => 30 | 139 => 158 | 138 => 157 | 51 => 32 | 160 => 159 | 208 => 165 | 206 => 163 | 80 => 65 | n => n, fun | 13 => 0 | 3 => 2 | 4 => 3 | n => n⟩
theorem Tryz.lays159 : Go.Proofs.Lays.n159 Tryz.prog Tryz.lays159_ren := {
  mixed := by kernel_rfl
  f118 := Tryz.func47.trans (congrArg some (by kernel_rfl))
  f159 := Tryz.func33.trans (congrArg some (by kernel_rfl))
  f165 := Tryz.func34.trans (congrArg some (by kernel_rfl))
  f166 := Tryz.func35.trans (congrArg some (by kernel_rfl))
  f167 := Tryz.func40.trans (congrArg some (by kernel_rfl))
  f168 := Tryz.func48.trans (congrArg some (by kernel_rfl))
  f169 := Tryz.func36.trans (congrArg some (by kernel_rfl))
  f197 := Tryz.func46.trans (congrArg some (by kernel_rfl))
  f204 := Tryz.func43.trans (congrArg some (by kernel_rfl))
  f230 := Tryz.func41.trans (congrArg some (by kernel_rfl))
  f240 := Tryz.func44.trans (congrArg some (by kernel_rfl))
  f241 := Tryz.func45.trans (congrArg some (by kernel_rfl))
  f242 := Tryz.func54.trans (congrArg some (by kernel_rfl))
  f260 := Tryz.func53.trans (congrArg some (by kernel_rfl))
  f262 := Tryz.func50.trans (congrArg some (by kernel_rfl))
  f270 := Tryz.func49.trans (congrArg some (by kernel_rfl))
  f274 := Tryz.func57.trans (congrArg some (by kernel_rfl))
  f275 := Tryz.func58.trans (congrArg some (by kernel_rfl))
  f276 := Tryz.func51.trans (congrArg some (by kernel_rfl))
  f277 := Tryz.func52.trans (congrArg some (by kernel_rfl))
  f278 := Tryz.func56.trans (congrArg some (by kernel_rfl))
  f313 := Tryz.func55.trans (congrArg some (by kernel_rfl))
  t0 := Tryz.underlying0
  a0 := Tryz.isAgg0
  z0 := Tryz.sizeOf0
  v0 := Tryz.zeroValue0
  t3 := Tryz.underlying3
  a3 := Tryz.isAgg3
  z3 := Tryz.sizeOf3
  v3 := Tryz.zeroValue3
  t4 := Tryz.underlying4
  a4 := Tryz.isAgg4
  z4 := Tryz.sizeOf4
  v4 := Tryz.zeroValue4
  t5 := Tryz.underlying5
  a5 := Tryz.isAgg5
  z5 := Tryz.sizeOf5
  v5 := Tryz.zeroValue5
  t9 := Tryz.underlying9
  a9 := Tryz.isAgg9
  z9 := Tryz.sizeOf9
  v9 := Tryz.zeroValue9
  t20 := Tryz.underlying20
  a20 := Tryz.isAgg20
  z20 := Tryz.sizeOf20
  v20 := Tryz.zeroValue20
  t21 := Tryz.underlying21
  a21 := Tryz.isAgg21
  z21 := Tryz.sizeOf21
  v21 := Tryz.zeroValue21
  t37 := Tryz.underlying35
  a37 := Tryz.isAgg35
  z37 := Tryz.sizeOf35
  v37 := Tryz.zeroValue35
  t46 := Tryz.underlying30
  a46 := Tryz.isAgg30
  z46 := Tryz.sizeOf30
  v46 := Tryz.zeroValue30
  t51 := Tryz.underlying32
  a51 := Tryz.isAgg32
  z51 := Tryz.sizeOf32
  v51 := Tryz.zeroValue32
  t70 := Tryz.underlying131
  a70 := Tryz.isAgg131
  z70 := Tryz.sizeOf131
  v70 := Tryz.zeroValue131
  t72 := Tryz.underlying133
  a72 := Tryz.isAgg133
  z72 := Tryz.sizeOf133
  v72 := Tryz.zeroValue133
  t75 := Tryz.underlying25
  a75 := Tryz.isAgg25
  z75 := Tryz.sizeOf25
  v75 := Tryz.zeroValue25
  t76 := Tryz.underlying135
  a76 := Tryz.isAgg135
  z76 := Tryz.sizeOf135
  v76 := Tryz.zeroValue135
  t105 := Tryz.underlying143
  a105 := Tryz.isAgg143
  z105 := Tryz.sizeOf143
  v105 := Tryz.zeroValue143
  t107 := Tryz.underlying141
  a107 := Tryz.isAgg141
  z107 := Tryz.sizeOf141
  v107 := Tryz.zeroValue141
  t119 := Tryz.underlying155
  a119 := Tryz.isAgg155
  z119 := Tryz.sizeOf155
  t127 := Tryz.underlying142
  a127 := Tryz.isAgg142
  z127 := Tryz.sizeOf142
  v127 := Tryz.zeroValue142
  t138 := Tryz.underlying157
  a138 := Tryz.isAgg157
  z138 := Tryz.sizeOf157
  v138 := Tryz.zeroValue157
  t139 := Tryz.underlying158
  a139 := Tryz.isAgg158
  z139 := Tryz.sizeOf158
  v139 := Tryz.zeroValue158
  t160 := Tryz.underlying159
  a160 := Tryz.isAgg159
  z160 := Tryz.sizeOf159
  v160 := Tryz.zeroValue159
  t162 := Tryz.underlying154
  a162 := Tryz.isAgg154
  z162 := Tryz.sizeOf154
  v162 := Tryz.zeroValue154
  t164 := Tryz.underlying34
  a164 := Tryz.isAgg34
  z164 := Tryz.sizeOf34
  v164 := Tryz.zeroValue34
  t203 := Tryz.underlying152
  a203 := Tryz.isAgg152
  z203 := Tryz.sizeOf152
  v203 := Tryz.zeroValue152
  t206 := Tryz.underlying163
  a206 := Tryz.isAgg163
  z206 := Tryz.sizeOf163
  v206 := Tryz.zeroValue163
  t208 := Tryz.underlying165
  a208 := Tryz.isAgg165
  z208 := Tryz.sizeOf165
  v208 := Tryz.zeroValue165
  g3 := by kernel_rfl
  g4 := by kernel_rfl
  g13 := by kernel_rfl }
theorem Tryz.Builder_Extra_159 : Builder.Extra Tryz.prog Tryz.lays159_ren := {
  sizeBuilder := by kernel_rfl
  liesBuilder := by kernel_rfl
  t5 := Tryz.underlying5
  a5 := Tryz.isAgg5
  z5 := Tryz.sizeOf5
  v5 := Tryz.zeroValue5
  infoByte := by kernel_rfl
  cellsByte := by kernel_rfl
  sizeByte := by kernel_rfl
  neB5 := by decide }
open Go.RowKit in
/-- strings.ToLower: "ToLower returns s with all Unicode letters mapped to their lower case.": ON ASCII TEXT OF AT MOST 2^47 BYTES. Below the heap's end the world is as it was: where a letter turns, the call makes a builder and its buffer. (LAID: no walk: one application.) -/
theorem Tryz.strings_ToLower_ascii (s : ByteArray) (w : World) (hs : s.size ≤ 140737488355328) (hascii : ∀ (j : Nat) (b : UInt8), s.data.toList[j]? = some b → b.toNat < 128) :
    Calls Tryz.prog 33 #[.string s] w fun e w' => e = .returned (.string ⟨(Lib.toLowerA s.data.toList).toArray⟩) ∧ Below w.heap.size w w' := Any.strings_ToLower_ascii Tryz.lays159 Tryz.Builder_Extra_159 s w hs hascii
end Go.Proofs
