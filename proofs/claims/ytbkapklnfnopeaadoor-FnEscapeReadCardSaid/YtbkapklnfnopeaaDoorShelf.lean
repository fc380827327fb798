/- Contracts of Go's library at this dump, laid by the shelf's tool in plain words. -/
import Derived.Shelf.LaysM
import Derived.Shelf.Bytes.Len
import Derived.Shelf.Bytes.TryGrow
import Derived.Shelf.Bytes.GrowSliceCatch
import Derived.Shelf.Bytes.GrowSlice
import Derived.Shelf.Bytes.String
import Derived.Shelf.Bytes.Reset
import Derived.Shelf.Bytes.GrowRow0Kept
import Derived.Shelf.Bytes.GrowRowKept
import Derived.Shelf.Bytes.GrowNilKept
import Derived.Shelf.Bytes.GrowKept
import Derived.Shelf.Bytes.WriteByteKept
import Derived.Shelf.Bytes.ResetKept
import Derived.Shelf.Bytes.BufferK
import Derived.Ground.MzProg
import Derived.Shelf.Wr.WriteRuneAscii
import Derived.Shelf.Bytes.LenAt
import Derived.Shelf.Bytes.StringAt
import Derived.Shelf.Bytes.TryGrowAt
import Derived.Shelf.Unicode.Is16White
import Derived.Shelf.Unicode.IsSpaceAny
import Derived.Shelf.Unicode.Is16Any
import Derived.Shelf.Unicode.Is32Any
import Derived.Shelf.Unicode.ExclAny
import Derived.Test.YtbkapklnfnopeaaDoorProg
namespace Go.Proofs
open Go.Shelf
def Tryd.laysM182_ren : Go.Shelf.Ren := ⟨fun | 182 => 15 | n => n, fun | 130 => 39 | 9 => 9 | 4 => 4 | 0 => 0 | 93 => 51 | 37 => 27 | 3 => 3 | 91 => 49 | 5 => 5 | n => n, fun | n => n⟩
theorem Tryd.laysM182 : Go.Proofs.LaysM.n182 Tryd.prog Tryd.laysM182_ren := {
  mixed := by kernel_rfl
  f182 := Tryd.func15.trans (congrArg some (by kernel_rfl))
  t0 := Tryd.underlying0
  a0 := Tryd.isAgg0
  z0 := Tryd.sizeOf0
  v0 := Tryd.zeroValue0
  t3 := Tryd.underlying3
  a3 := Tryd.isAgg3
  z3 := Tryd.sizeOf3
  v3 := Tryd.zeroValue3
  t4 := Tryd.underlying4
  a4 := Tryd.isAgg4
  z4 := Tryd.sizeOf4
  v4 := Tryd.zeroValue4
  t9 := Tryd.underlying9
  a9 := Tryd.isAgg9
  z9 := Tryd.sizeOf9
  v9 := Tryd.zeroValue9
  t37 := Tryd.underlying27
  a37 := Tryd.isAgg27
  z37 := Tryd.sizeOf27
  v37 := Tryd.zeroValue27
  t93 := Tryd.underlying51
  a93 := Tryd.isAgg51
  z93 := Tryd.sizeOf51
  v93 := Tryd.zeroValue51
  t130 := Tryd.underlying39
  a130 := Tryd.isAgg39
  z130 := Tryd.sizeOf39
  v130 := Tryd.zeroValue39
  t5 := Tryd.underlying5
  a5 := Tryd.isAgg5
  z5 := Tryd.sizeOf5
  v5 := Tryd.zeroValue5
  t91 := Tryd.underlying49
  a91 := Tryd.isAgg49
  z91 := Tryd.sizeOf49
  v91 := Tryd.zeroValue49
  i0 := by kernel_rfl
  i3 := by kernel_rfl
  i4 := by kernel_rfl
  i5 := by kernel_rfl
  i9 := by kernel_rfl
  i37 := by kernel_rfl
  i91 := by kernel_rfl
  i93 := by kernel_rfl
  i130 := by kernel_rfl }
open Go.RowKit in
theorem Tryd.Buffer_String (B b : Nat) (l : List UInt8) (w : World) (h : Lib.IsBuffer 51 5 B b (Lib.byteCells l) w) :
    Calls Tryd.prog 15 #[.pointer (some ⟨b, 0, none⟩)] w fun e w' => e = .returned (.string ⟨l.toArray⟩) ∧ ∃ n, w' = w.drewN n := Any.Buffer_String Tryd.laysM182 B b l w h
def Tryd.laysWr5_ren : Go.Shelf.Ren := ⟨fun | 5 => 13 | 7 => 17 | 8 => 18 | 9 => 19 | 10 => 20 | 11 => 23 | 12 => 24 | 13 => 25 | 14 => 26 | 15 => 27 | n => n, fun | 34 => 39 | 21 => 21 | 3 => 3 | 28 => 42 | 35 => 52 | 4 => 4 | 5 => 5 | 0 => 0 | 26 => 51 | 24 => 49 | 37 => 57 | 22 => 27 | 43 => 75 | 20 => 20 | 31 => 47 | 9 => 9 | n => n, fun | 0 => 2 | n => n⟩
theorem Tryd.laysWr5 : Go.Proofs.LaysWr.n5 Tryd.prog Tryd.laysWr5_ren := {
  mixed := by kernel_rfl
  f5 := Tryd.func13.trans (congrArg some (by kernel_rfl))
  f7 := Tryd.func17.trans (congrArg some (by kernel_rfl))
  f8 := Tryd.func18.trans (congrArg some (by kernel_rfl))
  f9 := Tryd.func19.trans (congrArg some (by kernel_rfl))
  f10 := Tryd.func20.trans (congrArg some (by kernel_rfl))
  f11 := Tryd.func23.trans (congrArg some (by kernel_rfl))
  f12 := Tryd.func24.trans (congrArg some (by kernel_rfl))
  f13 := Tryd.func25.trans (congrArg some (by kernel_rfl))
  f14 := Tryd.func26.trans (congrArg some (by kernel_rfl))
  f15 := Tryd.func27.trans (congrArg some (by kernel_rfl))
  t0 := Tryd.underlying0
  a0 := Tryd.isAgg0
  z0 := Tryd.sizeOf0
  v0 := Tryd.zeroValue0
  i0 := by kernel_rfl
  t3 := Tryd.underlying3
  a3 := Tryd.isAgg3
  z3 := Tryd.sizeOf3
  v3 := Tryd.zeroValue3
  i3 := by kernel_rfl
  t4 := Tryd.underlying4
  a4 := Tryd.isAgg4
  z4 := Tryd.sizeOf4
  v4 := Tryd.zeroValue4
  i4 := by kernel_rfl
  t5 := Tryd.underlying5
  a5 := Tryd.isAgg5
  z5 := Tryd.sizeOf5
  v5 := Tryd.zeroValue5
  i5 := by kernel_rfl
  t9 := Tryd.underlying9
  a9 := Tryd.isAgg9
  z9 := Tryd.sizeOf9
  v9 := Tryd.zeroValue9
  i9 := by kernel_rfl
  t20 := Tryd.underlying20
  a20 := Tryd.isAgg20
  z20 := Tryd.sizeOf20
  v20 := Tryd.zeroValue20
  i20 := by kernel_rfl
  t21 := Tryd.underlying21
  a21 := Tryd.isAgg21
  z21 := Tryd.sizeOf21
  v21 := Tryd.zeroValue21
  i21 := by kernel_rfl
  t22 := Tryd.underlying27
  a22 := Tryd.isAgg27
  z22 := Tryd.sizeOf27
  v22 := Tryd.zeroValue27
  i22 := by kernel_rfl
  t24 := Tryd.underlying49
  a24 := Tryd.isAgg49
  z24 := Tryd.sizeOf49
  v24 := Tryd.zeroValue49
  i24 := by kernel_rfl
  t26 := Tryd.underlying51
  a26 := Tryd.isAgg51
  z26 := Tryd.sizeOf51
  v26 := Tryd.zeroValue51
  i26 := by kernel_rfl
  t28 := Tryd.underlying42
  a28 := Tryd.isAgg42
  z28 := Tryd.sizeOf42
  v28 := Tryd.zeroValue42
  i28 := by kernel_rfl
  t31 := Tryd.underlying47
  a31 := Tryd.isAgg47
  z31 := Tryd.sizeOf47
  v31 := Tryd.zeroValue47
  i31 := by kernel_rfl
  t34 := Tryd.underlying39
  a34 := Tryd.isAgg39
  z34 := Tryd.sizeOf39
  v34 := Tryd.zeroValue39
  i34 := by kernel_rfl
  t35 := Tryd.underlying52
  a35 := Tryd.isAgg52
  z35 := Tryd.sizeOf52
  v35 := Tryd.zeroValue52
  i35 := by kernel_rfl
  t37 := Tryd.underlying57
  a37 := Tryd.isAgg57
  z37 := Tryd.sizeOf57
  v37 := Tryd.zeroValue57
  i37 := by kernel_rfl
  t43 := Tryd.underlying75
  a43 := Tryd.isAgg75
  z43 := Tryd.sizeOf75
  v43 := Tryd.zeroValue75
  i43 := by kernel_rfl
  g0 := by kernel_rfl
  m0 := by kernel_rfl }
open Go.RowKit in
theorem Tryd.Buffer_WriteRune_ascii (B b : Nat) (bs : List Value) (r : Int) (h0 : 0 ≤ r) (h128 : r < 128) (w : World) (h : Lib.IsBuffer 51 5 B b bs w) (hBw : B ≤ w.heap.size) (h1 : ∀ v ∈ bs, v.oneCell' = true) (hlim : bs.length + 1 ≤ 140737488355328) :
    Calls Tryd.prog 13 #[.pointer (some ⟨b, 0, none⟩), .int .i32 r] w fun e w' => e = .returned (.tuple #[.int .i64 1, .nilIface]) ∧ Lib.IsBuffer 51 5 B b (bs ++ [.int .u8 r]) w' ∧ Below B w w' ∧ Lib.OthersKept 5 (some b) w w' := Any.Buffer_WriteRune_ascii Tryd.laysWr5 B b bs r h0 h128 w h hBw h1 hlim
end Go.Proofs
