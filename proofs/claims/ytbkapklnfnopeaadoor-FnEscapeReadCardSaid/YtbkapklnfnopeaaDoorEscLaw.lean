/- laws.FnEscapeRead. -/
import Derived.Test.YtbkapklnfnopeaaDoorEscImpl
import Derived.Test.YtbkapklnfnopeaaDoorRows
import Derived.MakeChecks
import Derived.LaidSub
namespace Go.Proofs.YtbkapklnfnopeaaDoor
open Go.RowKit
set_option linter.unusedVariables false
set_option linter.unusedSimpArgs false

theorem props_of_laid (w : World) (h : laidMetH Tryd.prog Rows.fnEscapeReadRow.laid w) : PC w := by
  rw [MakeChecks.laidMetH_plain _ _ _ (by kernel_rfl)] at h
  have h2 := h.filter (fun x => x.1 == "unicode.properties")
  have e : (Rows.fnEscapeReadRow.laid.filter fun x => x.1 == "unicode.properties") = [("unicode.properties", Lib.tabData .u8 Lib.propertiesTab)] := by kernel_rfl
  rw [e] at h2
  exact Props.cells (Lib.tabIs_of_head (g := 0) (t := 53) (e := 5) (n := 256) (by kernel_rfl) (by kernel_rfl) (by kernel_rfl) (by kernel_rfl) (by kernel_rfl) (by kernel_rfl) h2)

namespace fnEscapeRead
set_option maxRecDepth 100000 in
set_option maxHeartbeats 2000000 in
theorem walk (sg : Int) (rest : ByteArray) (w : World) (hc : (Lit.int .u8 sg).wf = true) (hsz : rest.size ≤ maxLen) (hL : laidMetH Tryd.prog Rows.fnEscapeReadRow.laid w) :
    Calls Tryd.prog 3 #[.int .u8 sg, .string rest] w fun e w' => e = .returned (.bool true) ∧ Below w.heap.size w w' := by
  have hp := props_of_laid w hL
  clear hL
  have hcc := Go.bounds_u8 hc
  obtain ⟨hc0, hc1⟩ := hcc
  unfold maxLen at hsz
  clear hc
  by_cases g1 : (2147483647 : Int) < rest.size
  · clear hp
    go_enter Tryd.func3, Tryd.ntmps3
    go_wp2_with fail
    go_returns
    exact ⟨rfl, Below.refl _ _⟩
  by_cases g2 : (128 : Int) ≤ sg
  · clear hp
    go_enter Tryd.func3, Tryd.ntmps3
    go_wp2_with fail
    go_returns
    exact ⟨rfl, Below.refl _ _⟩
  by_cases g3 : (100 : Int) < rest.size
  · clear hp
    go_enter Tryd.func3, Tryd.ntmps3
    go_wp2_with fail
    go_returns
    exact ⟨rfl, Below.refl _ _⟩
  have H9 := Go.Lib.hid (ascii9_any rest w (by omega))
  obtain ⟨n, rfl⟩ := Int.eq_ofNat_of_zero_le hc0
  have hn : n < 128 := by omega
  have HSP := Go.Lib.hid (spec_er n hn rest (by omega) w)
  have hcn : (n.toUInt8).toNat = n := by simp [Nat.toUInt8]; omega
  have hwr : IntKind.i64.wrap (n : Int) = n := IntWalk.i64_in _ (by omega)
  have HIM := Go.Lib.hid fun (hA : IsAscii rest) (w1 : World) (hb : Below w.heap.size w w1) => impl_er n.toUInt8 rest w1 (by rw [hcn]; exact hn) hA (by omega) (hp.of (hb.block 0 hp.1) hb.size)
  rw [hcn] at HIM
  have hsg : signed n.toUInt8 rest = ⟨#[n.toUInt8]⟩ ++ rest := rfl
  rw [hsg] at HIM
  obtain ⟨a, ha⟩ : ∃ a : ByteArray, a = ⟨#[n.toUInt8]⟩ ++ rest := ⟨_, rfl⟩
  rw [← ha] at HIM HSP
  clear hp hcn hsg ha hc0 hc1
  go_enter Tryd.func3, Tryd.ntmps3
  go_wp2_with fail
  refine H9.out.mono ?_
  rintro e w1 ⟨b, rfl, hb, rfl⟩
  have HBA := Go.Lib.hid hb
  clear hb
  cases b
  · go_wp2_with fail
    go_returns
    exact ⟨rfl, Below.refl _ _⟩
  have HA : Hid (IsAscii rest) := HBA.out rfl
  go_wp2_with fail
  refine HSP.out.mono ?_
  rintro e w2 ⟨j, hj, rfl, b2⟩
  have HJ := Go.Lib.hid hj
  have B2 := Go.Lib.hid b2
  obtain ⟨tx, htx⟩ : ∃ tx : ByteArray, tx = ⟨(a.data.toList.take j).toArray⟩ := ⟨_, rfl⟩
  obtain ⟨lf, hlf⟩ : ∃ lf : ByteArray, lf = ⟨(a.data.toList.drop (j + 1)).toArray⟩ := ⟨_, rfl⟩
  obtain ⟨lz, hlz⟩ : ∃ lz, lz = lastOf a j := ⟨_, rfl⟩
  rw [← htx, ← hlf, ← hlz]
  have HTX := Go.Lib.hid htx
  have HLF := Go.Lib.hid hlf
  have HLZ := Go.Lib.hid hlz
  clear hj b2 htx hlf hlz
  go_wp2_with fail
  refine (HIM.out HA.out w2 B2.out).mono ?_
  rintro e w3 ⟨i, hi, rfl, b3⟩
  obtain rfl := HJ.out.unique hi
  have B3 : Hid (Below w1.heap.size w1 w3) := B2.out.trans (b3.mono B2.out.size)
  rw [← HTX.out, ← HLF.out, ← HLZ.out]
  have e3 : (lz == lz) = true := by simp
  clear hi b3
  go_wp2_with fail
  refine (printable_a w3).mono ?_
  rintro e w4 ⟨rfl, rfl⟩
  go_wp2_with fail
  go_returns
  exact ⟨rfl, B3.out⟩
end fnEscapeRead
end Go.Proofs.YtbkapklnfnopeaaDoor
