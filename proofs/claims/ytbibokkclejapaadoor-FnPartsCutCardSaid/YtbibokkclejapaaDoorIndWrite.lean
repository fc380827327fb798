/- (*bytes.Buffer).Write of one byte into a buffer that has room. -/
import Derived.Test.YtbibokkclejapaaDoorIndNew
import Derived.Laws.CopyRow
import Derived.Laws.Tables
namespace Go.Proofs.YtbibokkclejapaaDoor
open Go.RowKit
set_option linter.unusedVariables false
set_option linter.unusedSimpArgs false

theorem from_runB (g m k cap : Nat) (hm : m ≤ k) (hk : m < cap) : ∀ w, (Instr.slice 51 (.slice (some ⟨g, 0, none⟩) k cap) (some (.int .i64 (m : Nat))) none none).run Tryd.prog w = .ok (.slice (some ⟨g, m, none⟩) (k - m) (cap - m)) w := fun w => by
  have he : Tryd.prog.elem 51 = 5 := by simp [Program.elem, Tryd.underlying51]
  rw [run_slice_l w 51 _ k cap (by rw [he]; exact Tryd.underlying51) .i64 m (by omega) (by omega), sizeB]
  simp only [Result.andThen, sliced, Nat.mul_one, Int.toNat_natCast]
  rw [if_neg (by omega)]
  simp only [Option.map_some, Addr.add]
  by_cases h0 : m = 0
  · rw [if_pos h0, h0]
  · rw [if_neg h0, Nat.zero_add]

set_option maxRecDepth 100000 in
set_option maxHeartbeats 1000000 in
theorem write_room (b q g m cap c : Nat) (cur : Array Value) (z : Int) (a : Addr) (lr : Int) (w : World) (c0 : w.cell? ⟨b, q, none⟩ = some (.slice (some ⟨g, 0, none⟩) m cap)) (c2 : w.cell? ⟨b, q + 2, none⟩ = some (.int .i8 lr)) (f : ∀ j, w.frozen? ⟨b, j, none⟩ = false)
    (hg : w.heap[g]? = some (.cells cur 5 (0, 0))) (hcs : cur.size = cap) (hml : m ≤ 1000000) (hcm : cap ≤ 9223372036854775807) (hgb : g ≠ b) (hroom : m + 1 ≤ cap) (hab : a.block ≠ b) (ha : w.cell? a = some (.int .u8 z)) :
    Calls Tryd.prog 69 #[.pointer (some ⟨b, q, none⟩), .slice (some a) 1 c] w fun e w' => e = .returned (.tuple #[.int .i64 1, .nilIface]) ∧ w' = ((w.setCell ⟨b, q + 2, none⟩ (.int .i8 0)).setCell ⟨b, q, none⟩ (.slice (some ⟨g, 0, none⟩) (m + 1) cap)).setRow g (cur.toList.take m ++ [Value.int .u8 z] ++ cur.toList.drop (m + 1)).toArray := by
  have hz := lt_of_cell c0
  have fq := f q
  have fq2 := f (q + 2)
  obtain ⟨W2, hW2⟩ : ∃ W, W = (w.setCell ⟨b, q + 2, none⟩ (.int .i8 0)).setCell ⟨b, q, none⟩ (.slice (some ⟨g, 0, none⟩) (m + 1) cap) := ⟨_, rfl⟩
  have k0 : (w.setCell ⟨b, q + 2, none⟩ (.int .i8 0)).cell? ⟨b, q, none⟩ = some (.slice (some ⟨g, 0, none⟩) m cap) := (World.cell?_setCell_other _ _ _ _ (by intro e; injection e with _ e2; omega)).trans c0
  have kf : (w.setCell ⟨b, q + 2, none⟩ (.int .i8 0)).frozen? ⟨b, q, none⟩ = false := (World.frozen?_setCell _ _ _ _).trans fq
  have j0 : W2.cell? ⟨b, q, none⟩ = some (.slice (some ⟨g, 0, none⟩) (m + 1) cap) := by rw [hW2]; exact World.cell?_setCell_same' _ _ _ (by rw [k0]; rfl)
  have jg : W2.heap[g]? = some (.cells cur 5 (0, 0)) := by rw [hW2, Below.heap_setCell _ _ _ _ (by exact hgb), Below.heap_setCell _ _ _ _ (by exact hgb)]; exact hg
  have ja : W2.cell? a = some (.int .u8 z) := by
    rw [hW2, World.cell?_setCell_other _ _ _ _ (by first | (intro e; exact hab (congrArg Addr.block e)) | (intro e; exact hab (congrArg Addr.block e).symm)), World.cell?_setCell_other _ _ _ _ (by first | (intro e; exact hab (congrArg Addr.block e)) | (intro e; exact hab (congrArg Addr.block e).symm))]
    exact ha
  have hinfo : (Tryd.prog.info? 5).map (·.size) = some 1 := by kernel_rfl
  have hcp := run_copy_row (P := Tryd.prog) W2 51 51 3 5 g m 1 (cap - m) a 1 c cur 5 [.int .u8 z] Tryd.underlying51 hinfo jg rfl (fun j v hv => by
    match j, hv with
    | 0, hv =>
      simp at hv
      subst hv
      rw [show a.add 0 = a by simp [Addr.add]]
      exact ja
    | j + 1, hv => simp at hv) (by simp; omega) (fun v hv => by simp at hv; subst hv; rfl)
  have hfr := from_runB g m (m + 1) cap (by omega) (by omega)
  rw [show m + 1 - m = 1 by omega] at hfr
  have htr := Go.Lib.hid (try_room b q (some ⟨g, 0, none⟩) cap m 1 (w.setCell ⟨b, q + 2, none⟩ (.int .i8 0)) k0 kf hroom (by unfold maxLen; omega))
  rw [← hW2] at htr ⊢
  have HC := Go.Lib.hid hcp
  clear hg ja jg hinfo k0 kf f hcp hW2
  go_enter Tryd.func69, Tryd.ntmps69
  go_wp2_with fail
  refine htr.out.mono ?_
  rintro e w2 ⟨rfl, rfl⟩
  have hcp := HC.out
  go_wp2_with fail
  go_returns
  exact ⟨rfl, by rw [List.append_assoc]; rfl⟩
end Go.Proofs.YtbibokkclejapaaDoor
