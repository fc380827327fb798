/- goprompt.Key.String. -/
import Derived.Test.YtkjahndemlladaaDoorKeyStrL
import Derived.Lib.LaidTab
import Derived.Deep.QuietTactic
namespace Go.Proofs.YtkjahndemlladaaDoor
open Go.RowKit
set_option linter.unusedVariables false
set_option linter.unusedSimpArgs false

def keyNames : ByteArray := ⟨keyNameBytes.toArray⟩
def beg (k : Nat) : Nat := (keyIdx.getD k 0).toNat
/-- The name of a key. -/
def nameOf (k : Nat) : ByteArray := keyNames.extract (beg k) (beg (k + 1))
theorem beg_fin : ∀ k : Fin 88, keyIdx.getD k.val 0 = (beg k.val : Nat) ∧ (k.val < 87 → beg k.val ≤ beg (k.val + 1)) ∧ beg k.val ≤ 607 := by decide +kernel
/-- The table of the names' beginnings. -/
def KeyTab (w : World) : Prop := Lib.TabIs Tryd.prog w "given.example/pub-typebar/pub/goprompt._Key_index" .u16 keyIdx

set_option maxRecDepth 100000 in
set_option maxHeartbeats 4000000 in
theorem keystr_any (k : Nat) (hk : k < 87) (w : World) (h : KeyTab w) : Calls Tryd.prog 7 #[.int .i64 k] w fun e w' => e = .returned (.string (nameOf k)) ∧ Below w.heap.size w w' := by
  have hlen : keyIdx.length = 88 := by kernel_rfl
  obtain ⟨b1, b2, b3⟩ := beg_fin ⟨k, by omega⟩
  obtain ⟨b4, _, b5⟩ := beg_fin ⟨k + 1, by omega⟩
  have b6 := b2 hk
  simp only at b1 b3 b4 b5 b6
  have c0 := h.cell (g := 0) (by kernel_rfl) k (by omega)
  have c1 := h.cell (g := 0) (by kernel_rfl) (k + 1) (by omega)
  rw [b1] at c0
  rw [b4] at c1
  have HN : Hid (nameOf k = keyNames.extract (beg k) (beg (k + 1))) := rfl
  generalize nameOf k = nm at HN ⊢
  generalize beg k = lo at *
  generalize beg (k + 1) = hi at *
  have hw : IntKind.i64.wrap ((k : Int) + 1) = ((k + 1 : Nat) : Int) := by rw [IntWalk.i64_in _ (by omega)]; omega
  have hk1 : (k : Int) < 87 := by omega
  have hk2 : (0 : Int) ≤ k := by omega
  have hb1 : (k : Int) < 88 := by omega
  have hb2 : (k : Int) + 1 < 88 := by omega
  have hb3 : (0 : Int) ≤ (k : Int) + 1 := by omega
  have hT : ((k : Int) + 1).toNat = k + 1 := by omega
  have hlo : (lo : Int) ≤ hi := by omega
  have hhi : (hi : Int) ≤ 607 := by omega
  clear h hlen b1 b2 b4
  go_enter Tryd.func7, Tryd.ntmps7
  go_wp2_with fail
  go_quiet (fail)
  go_wp2_with fail
  go_returns
  refine ⟨?_, below_drewN (Below.refl _ _) _⟩
  rw [HN.out]
  rfl
end Go.Proofs.YtkjahndemlladaaDoor
