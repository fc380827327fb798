/- Contracts of Go's library at this dump, laid by the shelf's tool in plain words. -/
import Derived.Shelf.Strings.Builder1
import Derived.Shelf.Strings.Builder2
import Derived.Shelf.Strings.OnBuilder
import Derived.Shelf.Small.Utf8
import Derived.Shelf.Strings.Prefix
import Derived.Shelf.Unicode.Latin
import Derived.Shelf.Unicode.DecodeSlow
import Derived.Shelf.Unicode.CaseLookup
import Derived.Shelf.Unicode.CaseConvert
import Derived.Shelf.Unicode.CaseTo
import Derived.Shelf.Unicode.CaseLaid
import Derived.Test.YtldlgipailfbnaaDoorProg
namespace Go.Proofs
open Go.Shelf
def Tryd.lays158_ren : Go.Shelf.Ren := ⟨fun | 158 => 20 | 165 => 24 | 166 => 25 | 167 => 26 | 169 => 27 | 230 => 28 | 203 => 29 | 240 => 30 | 241 => 31 | 197 => 32 | 118 => 33 | 168 => 34 | 270 => 35 | 262 => 36 | 276 => 37 | 277 => 38 | 260 => 39 | 242 => 40 | 313 => 41 | 278 => 42 | 274 => 43 | 275 => 44 | n => n, fun | 9 => 9 | 4 => 4 | 3 => 3 | 5 => 5 | 72 => 44 | 0 => 0 | 76 => 48 | 75 => 47 | 107 => 53 | 70 => 41 | 20 => 20 | 37 => 42 | 127 => 54 | 21 => 21 | 105 => 55 | 164 => 61 | 162 => 67 | 203 => 65 | 119 => 68 | 46 => 69 | 139 => 72 | 138 => 71 | 51 => 73 | 160 => 74 | 208 => 80 | 206 => 78 | 80 => 51 | n => n, fun | 13 => 0 | 3 => 2 | 4 => 3 | n => n⟩
theorem Tryd.lays158 : Go.Proofs.Lays.n158 Tryd.prog Tryd.lays158_ren := {
  mixed := by kernel_rfl
  f118 := Tryd.func33.trans (congrArg some (by kernel_rfl))
  f158 := Tryd.func20.trans (congrArg some (by kernel_rfl))
  f165 := Tryd.func24.trans (congrArg some (by kernel_rfl))
  f166 := Tryd.func25.trans (congrArg some (by kernel_rfl))
  f167 := Tryd.func26.trans (congrArg some (by kernel_rfl))
  f168 := Tryd.func34.trans (congrArg some (by kernel_rfl))
  f169 := Tryd.func27.trans (congrArg some (by kernel_rfl))
  f197 := Tryd.func32.trans (congrArg some (by kernel_rfl))
  f203 := Tryd.func29.trans (congrArg some (by kernel_rfl))
  f230 := Tryd.func28.trans (congrArg some (by kernel_rfl))
  f240 := Tryd.func30.trans (congrArg some (by kernel_rfl))
  f241 := Tryd.func31.trans (congrArg some (by kernel_rfl))
  f242 := Tryd.func40.trans (congrArg some (by kernel_rfl))
  f260 := Tryd.func39.trans (congrArg some (by kernel_rfl))
  f262 := Tryd.func36.trans (congrArg some (by kernel_rfl))
  f270 := Tryd.func35.trans (congrArg some (by kernel_rfl))
  f274 := Tryd.func43.trans (congrArg some (by kernel_rfl))
  f275 := Tryd.func44.trans (congrArg some (by kernel_rfl))
  f276 := Tryd.func37.trans (congrArg some (by kernel_rfl))
  f277 := Tryd.func38.trans (congrArg some (by kernel_rfl))
  f278 := Tryd.func42.trans (congrArg some (by kernel_rfl))
  f313 := Tryd.func41.trans (congrArg some (by kernel_rfl))
  t0 := Tryd.underlying0
  a0 := Tryd.isAgg0
  z0 := Tryd.sizeOf0
  v0 := Tryd.zeroValue0
  t3 := Tryd.underlying3
  a3 := Tryd.isAgg3
  z3 := Tryd.sizeOf3
  v3 := Tryd.zeroValue3
  t4 := Tryd.underlying4
  a4 := Tryd.isAgg4
  z4 := Tryd.sizeOf4
  v4 := Tryd.zeroValue4
  t5 := Tryd.underlying5
  a5 := Tryd.isAgg5
  z5 := Tryd.sizeOf5
  v5 := Tryd.zeroValue5
  t9 := Tryd.underlying9
  a9 := Tryd.isAgg9
  z9 := Tryd.sizeOf9
  v9 := Tryd.zeroValue9
  t20 := Tryd.underlying20
  a20 := Tryd.isAgg20
  z20 := Tryd.sizeOf20
  v20 := Tryd.zeroValue20
  t21 := Tryd.underlying21
  a21 := Tryd.isAgg21
  z21 := Tryd.sizeOf21
  v21 := Tryd.zeroValue21
  t37 := Tryd.underlying42
  a37 := Tryd.isAgg42
  z37 := Tryd.sizeOf42
  v37 := Tryd.zeroValue42
  t46 := Tryd.underlying69
  a46 := Tryd.isAgg69
  z46 := Tryd.sizeOf69
  v46 := Tryd.zeroValue69
  t51 := Tryd.underlying73
  a51 := Tryd.isAgg73
  z51 := Tryd.sizeOf73
  v51 := Tryd.zeroValue73
  t70 := Tryd.underlying41
  a70 := Tryd.isAgg41
  z70 := Tryd.sizeOf41
  v70 := Tryd.zeroValue41
  t72 := Tryd.underlying44
  a72 := Tryd.isAgg44
  z72 := Tryd.sizeOf44
  v72 := Tryd.zeroValue44
  t75 := Tryd.underlying47
  a75 := Tryd.isAgg47
  z75 := Tryd.sizeOf47
  v75 := Tryd.zeroValue47
  t76 := Tryd.underlying48
  a76 := Tryd.isAgg48
  z76 := Tryd.sizeOf48
  v76 := Tryd.zeroValue48
  t105 := Tryd.underlying55
  a105 := Tryd.isAgg55
  z105 := Tryd.sizeOf55
  v105 := Tryd.zeroValue55
  t107 := Tryd.underlying53
  a107 := Tryd.isAgg53
  z107 := Tryd.sizeOf53
  v107 := Tryd.zeroValue53
  t119 := Tryd.underlying68
  a119 := Tryd.isAgg68
  z119 := Tryd.sizeOf68
  t127 := Tryd.underlying54
  a127 := Tryd.isAgg54
  z127 := Tryd.sizeOf54
  v127 := Tryd.zeroValue54
  t138 := Tryd.underlying71
  a138 := Tryd.isAgg71
  z138 := Tryd.sizeOf71
  v138 := Tryd.zeroValue71
  t139 := Tryd.underlying72
  a139 := Tryd.isAgg72
  z139 := Tryd.sizeOf72
  v139 := Tryd.zeroValue72
  t160 := Tryd.underlying74
  a160 := Tryd.isAgg74
  z160 := Tryd.sizeOf74
  v160 := Tryd.zeroValue74
  t162 := Tryd.underlying67
  a162 := Tryd.isAgg67
  z162 := Tryd.sizeOf67
  v162 := Tryd.zeroValue67
  t164 := Tryd.underlying61
  a164 := Tryd.isAgg61
  z164 := Tryd.sizeOf61
  v164 := Tryd.zeroValue61
  t203 := Tryd.underlying65
  a203 := Tryd.isAgg65
  z203 := Tryd.sizeOf65
  v203 := Tryd.zeroValue65
  t206 := Tryd.underlying78
  a206 := Tryd.isAgg78
  z206 := Tryd.sizeOf78
  v206 := Tryd.zeroValue78
  t208 := Tryd.underlying80
  a208 := Tryd.isAgg80
  z208 := Tryd.sizeOf80
  v208 := Tryd.zeroValue80
  g3 := by kernel_rfl
  g4 := by kernel_rfl
  g13 := by kernel_rfl }
theorem Tryd.Builder_Extra_158 : Builder.Extra Tryd.prog Tryd.lays158_ren := {
  sizeBuilder := by kernel_rfl
  liesBuilder := by kernel_rfl
  t5 := Tryd.underlying5
  a5 := Tryd.isAgg5
  z5 := Tryd.sizeOf5
  v5 := Tryd.zeroValue5
  infoByte := by kernel_rfl
  cellsByte := by kernel_rfl
  sizeByte := by kernel_rfl
  neB5 := by decide }
open Go.RowKit in
theorem Tryd.strings_ToUpper_ascii (s : ByteArray) (w : World) (hs : s.size ≤ 140737488355328) (hascii : ∀ (j : Nat) (b : UInt8), s.data.toList[j]? = some b → b.toNat < 128) :
    Calls Tryd.prog 20 #[.string s] w fun e w' => e = .returned (.string ⟨(Lib.toUpperA s.data.toList).toArray⟩) ∧ Below w.heap.size w w' := Any.strings_ToUpper_ascii Tryd.lays158 Tryd.Builder_Extra_158 s w hs hascii
def Tryd.lays99_ren : Go.Shelf.Ren := ⟨fun | 99 => 16 | 206 => 21 | n => n, fun | 9 => 9 | 4 => 4 | 3 => 3 | n => n, fun | n => n⟩
theorem Tryd.lays99 : Go.Proofs.Lays.n99 Tryd.prog Tryd.lays99_ren := {
  mixed := by kernel_rfl
  f99 := Tryd.func16.trans (congrArg some (by kernel_rfl))
  f206 := Tryd.func21.trans (congrArg some (by kernel_rfl))
  t3 := Tryd.underlying3
  a3 := Tryd.isAgg3
  z3 := Tryd.sizeOf3
  v3 := Tryd.zeroValue3
  t4 := Tryd.underlying4
  a4 := Tryd.isAgg4
  z4 := Tryd.sizeOf4
  v4 := Tryd.zeroValue4
  t9 := Tryd.underlying9
  a9 := Tryd.isAgg9
  z9 := Tryd.sizeOf9
  v9 := Tryd.zeroValue9 }
open Go.RowKit Go.Lib in
theorem Tryd.strings_HasPrefix (s p : ByteArray) (w : World) :
    Calls Tryd.prog 16 #[.string s, .string p] w fun e w' => e = .returned (.bool (Lib.hasPrefix s.data.toList p.data.toList)) ∧ w' = w := Any.strings_HasPrefix Tryd.lays99 s p w
def Tryd.lays100_ren : Go.Shelf.Ren := ⟨fun | 100 => 17 | 207 => 22 | n => n, fun | 9 => 9 | 4 => 4 | 3 => 3 | n => n, fun | n => n⟩
theorem Tryd.lays100 : Go.Proofs.Lays.n100 Tryd.prog Tryd.lays100_ren := {
  mixed := by kernel_rfl
  f100 := Tryd.func17.trans (congrArg some (by kernel_rfl))
  f207 := Tryd.func22.trans (congrArg some (by kernel_rfl))
  t3 := Tryd.underlying3
  a3 := Tryd.isAgg3
  z3 := Tryd.sizeOf3
  v3 := Tryd.zeroValue3
  t4 := Tryd.underlying4
  a4 := Tryd.isAgg4
  z4 := Tryd.sizeOf4
  v4 := Tryd.zeroValue4
  t9 := Tryd.underlying9
  a9 := Tryd.isAgg9
  z9 := Tryd.sizeOf9
  v9 := Tryd.zeroValue9 }
open Go.RowKit Go.Lib in
theorem Tryd.strings_HasSuffix (s p : ByteArray) (w : World) (hs : s.size ≤ 9223372036854775807) :
    Calls Tryd.prog 17 #[.string s, .string p] w fun e w' => e = .returned (.bool (Lib.hasSuffix s.data.toList p.data.toList)) ∧ w' = w := Any.strings_HasSuffix Tryd.lays100 s p w hs
end Go.Proofs
