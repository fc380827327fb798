/- Contracts of Go's library at this dump, laid by the shelf's tool in plain words. -/
import Derived.Shelf.Strings.Builder1
import Derived.Shelf.Strings.Builder2
import Derived.Shelf.Strings.BuilderF
import Derived.Shelf.Strings.BuilderK
import Derived.Shelf.Strings.Builder2Cap
import Derived.Shelf.Strings.Prefix
import Derived.Shelf.Bits.Mul64
import Derived.Shelf.Strings.Repeat
import Derived.Shelf.Strings.BuilderCap
import Derived.Test.YtjdphehphceegaaProg
namespace Go.Proofs
open Go.Shelf
def Try.lays105_ren : Go.Shelf.Ren := ⟨fun | 105 => 16 | 212 => 21 | 99 => 22 | 165 => 23 | 166 => 24 | 170 => 25 | 169 => 26 | 263 => 27 | 264 => 28 | 206 => 29 | 240 => 30 | 241 => 31 | 276 => 32 | 277 => 33 | n => n, fun | 9 => 9 | 3 => 3 | 4 => 4 | 20 => 20 | 0 => 0 | 46 => 38 | 109 => 39 | 5 => 5 | 72 => 45 | 76 => 49 | 51 => 53 | 146 => 54 | 53 => 56 | 148 => 57 | 70 => 42 | 37 => 43 | 75 => 48 | 127 => 59 | 164 => 60 | 80 => 52 | n => n, fun | n => n⟩
theorem Try.lays105 : Go.Proofs.Lays.n105 Try.prog Try.lays105_ren := {
  mixed := by kernel_rfl
  f99 := Try.func22.trans (congrArg some (by kernel_rfl))
  f105 := Try.func16.trans (congrArg some (by kernel_rfl))
  f165 := Try.func23.trans (congrArg some (by kernel_rfl))
  f166 := Try.func24.trans (congrArg some (by kernel_rfl))
  f169 := Try.func26.trans (congrArg some (by kernel_rfl))
  f170 := Try.func25.trans (congrArg some (by kernel_rfl))
  f206 := Try.func29.trans (congrArg some (by kernel_rfl))
  f212 := Try.func21.trans (congrArg some (by kernel_rfl))
  f240 := Try.func30.trans (congrArg some (by kernel_rfl))
  f241 := Try.func31.trans (congrArg some (by kernel_rfl))
  f263 := Try.func27.trans (congrArg some (by kernel_rfl))
  f264 := Try.func28.trans (congrArg some (by kernel_rfl))
  f276 := Try.func32.trans (congrArg some (by kernel_rfl))
  f277 := Try.func33.trans (congrArg some (by kernel_rfl))
  t0 := Try.underlying0
  a0 := Try.isAgg0
  z0 := Try.sizeOf0
  v0 := Try.zeroValue0
  t3 := Try.underlying3
  a3 := Try.isAgg3
  z3 := Try.sizeOf3
  v3 := Try.zeroValue3
  t4 := Try.underlying4
  a4 := Try.isAgg4
  z4 := Try.sizeOf4
  v4 := Try.zeroValue4
  t5 := Try.underlying5
  a5 := Try.isAgg5
  z5 := Try.sizeOf5
  v5 := Try.zeroValue5
  t9 := Try.underlying9
  a9 := Try.isAgg9
  z9 := Try.sizeOf9
  v9 := Try.zeroValue9
  t20 := Try.underlying20
  a20 := Try.isAgg20
  z20 := Try.sizeOf20
  v20 := Try.zeroValue20
  t37 := Try.underlying43
  a37 := Try.isAgg43
  z37 := Try.sizeOf43
  v37 := Try.zeroValue43
  t46 := Try.underlying38
  a46 := Try.isAgg38
  z46 := Try.sizeOf38
  v46 := Try.zeroValue38
  t51 := Try.underlying53
  a51 := Try.isAgg53
  z51 := Try.sizeOf53
  v51 := Try.zeroValue53
  t53 := Try.underlying56
  a53 := Try.isAgg56
  z53 := Try.sizeOf56
  v53 := Try.zeroValue56
  t70 := Try.underlying42
  a70 := Try.isAgg42
  z70 := Try.sizeOf42
  v70 := Try.zeroValue42
  t72 := Try.underlying45
  a72 := Try.isAgg45
  z72 := Try.sizeOf45
  v72 := Try.zeroValue45
  t75 := Try.underlying48
  a75 := Try.isAgg48
  z75 := Try.sizeOf48
  v75 := Try.zeroValue48
  t76 := Try.underlying49
  a76 := Try.isAgg49
  z76 := Try.sizeOf49
  v76 := Try.zeroValue49
  t109 := Try.underlying39
  a109 := Try.isAgg39
  z109 := Try.sizeOf39
  v109 := Try.zeroValue39
  t127 := Try.underlying59
  a127 := Try.isAgg59
  z127 := Try.sizeOf59
  v127 := Try.zeroValue59
  t146 := Try.underlying54
  a146 := Try.isAgg54
  z146 := Try.sizeOf54
  v146 := Try.zeroValue54
  t148 := Try.underlying57
  a148 := Try.isAgg57
  z148 := Try.sizeOf57
  v148 := Try.zeroValue57
  t164 := Try.underlying60
  a164 := Try.isAgg60
  z164 := Try.sizeOf60
  v164 := Try.zeroValue60 }
theorem Try.Builder_Extra_105 : Builder.Extra Try.prog Try.lays105_ren := {
  sizeBuilder := by kernel_rfl
  liesBuilder := by kernel_rfl
  t5 := Try.underlying5
  a5 := Try.isAgg5
  z5 := Try.sizeOf5
  v5 := Try.zeroValue5
  infoByte := by kernel_rfl
  cellsByte := by kernel_rfl
  sizeByte := by kernel_rfl
  neB5 := by decide }
open Go.RowKit Go.Lib in
theorem Try.strings_Repeat (s : ByteArray) (c : Nat) (w : World) (hc : c ≤ 9223372036854775807) (hlen : s.size * c ≤ 140737488355328) :
    Calls Try.prog 16 #[.string s, .int .i64 c] w fun e w' => e = .returned (.string ⟨(Lib.repeatL s.data.toList c).toArray⟩) ∧ Below w.heap.size w w' := Any.strings_Repeat Try.lays105 Try.Builder_Extra_105 s c w hc hlen
end Go.Proofs
