/- (*bytes.Buffer).Write of no byte. -/
import Derived.Test.YtbibokkclejapaaDoorIndWrite2
namespace Go.Proofs.YtbibokkclejapaaDoor
open Go.RowKit
set_option linter.unusedVariables false
set_option linter.unusedSimpArgs false

theorem tail_runB (A : Option Addr) (m cap : Nat) (hm : m ≤ cap) : ∃ A', ∀ w, (Instr.slice 51 (.slice A m cap) (some (.int .i64 (m : Nat))) none none).run Tryd.prog w = .ok (.slice A' 0 (cap - m)) w := by
  have he : Tryd.prog.elem 51 = 5 := by simp [Program.elem, Tryd.underlying51]
  refine ⟨if cap = m then A else A.map fun a => a.add m, fun w => ?_⟩
  rw [run_slice_l w 51 _ m cap (by rw [he]; exact Tryd.underlying51) .i64 m (by omega) (by omega), sizeB]
  simp only [Result.andThen, sliced, Nat.mul_one, Int.toNat_natCast, Nat.sub_self]

set_option maxRecDepth 100000 in
set_option maxHeartbeats 1000000 in
theorem write_none (b q m cap : Nat) (A : Option Addr) (lr : Int) (w : World) (c0 : w.cell? ⟨b, q, none⟩ = some (.slice A m cap)) (c2 : w.cell? ⟨b, q + 2, none⟩ = some (.int .i8 lr)) (f : ∀ j, w.frozen? ⟨b, j, none⟩ = false)
    (hml : m ≤ 1000000) (hmc : m ≤ cap) (hcm : cap ≤ 9223372036854775807) :
    Calls Tryd.prog 69 #[.pointer (some ⟨b, q, none⟩), .slice none 0 0] w fun e w' => e = .returned (.tuple #[.int .i64 0, .nilIface]) ∧ w' = (w.setCell ⟨b, q + 2, none⟩ (.int .i8 0)).setCell ⟨b, q, none⟩ (.slice A m cap) := by
  have hz := lt_of_cell c0
  have fq2 := f (q + 2)
  have k0 : (w.setCell ⟨b, q + 2, none⟩ (.int .i8 0)).cell? ⟨b, q, none⟩ = some (.slice A m cap) := (World.cell?_setCell_other _ _ _ _ (by intro e; injection e with _ e2; omega)).trans c0
  have kf : (w.setCell ⟨b, q + 2, none⟩ (.int .i8 0)).frozen? ⟨b, q, none⟩ = false := (World.frozen?_setCell _ _ _ _).trans (f q)
  obtain ⟨W2, hW2⟩ : ∃ W, W = (w.setCell ⟨b, q + 2, none⟩ (.int .i8 0)).setCell ⟨b, q, none⟩ (.slice A m cap) := ⟨_, rfl⟩
  have j0 : W2.cell? ⟨b, q, none⟩ = some (.slice A m cap) := by rw [hW2]; exact World.cell?_setCell_same' _ _ _ (by rw [k0]; rfl)
  have htr0 := try_room b q A cap m 0 (w.setCell ⟨b, q + 2, none⟩ (.int .i8 0)) k0 kf (by omega) (by unfold maxLen; omega)
  have htr : Hid (Calls Tryd.prog 60 #[.pointer (some ⟨b, q, none⟩), .int .i64 0] (w.setCell ⟨b, q + 2, none⟩ (.int .i8 0)) fun e w' => e = .returned (.tuple #[.int .i64 (m : Nat), .bool true]) ∧ w' = W2) := htr0.mono (by
    rintro e w' ⟨rfl, rfl⟩
    exact ⟨rfl, hW2.symm⟩)
  rw [← hW2]
  obtain ⟨A', hfr⟩ := tail_runB A m cap hmc
  have hcp : ∀ d dCap W, (Builtin.copy_ #[51, 51] 3 #[.slice d 0 dCap, .slice none 0 0]).run Tryd.prog W = .ok (goInt 0) W := fun d dCap W => run_copy_none W 51 51 3 5 d none 0 dCap 0 0 Tryd.underlying51 (by kernel_rfl) (by simp)
  clear k0 kf f htr0 hW2
  go_enter Tryd.func69, Tryd.ntmps69
  go_wp2_with fail
  refine htr.out.mono ?_
  rintro e w2 ⟨rfl, rfl⟩
  go_wp2_with fail
  go_returns
  exact ⟨rfl, rfl⟩
end Go.Proofs.YtbibokkclejapaaDoor
