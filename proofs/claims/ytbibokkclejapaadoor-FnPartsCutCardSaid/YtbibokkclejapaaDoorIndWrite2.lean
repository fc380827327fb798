/- (*bytes.Buffer).Write of one byte into a buffer that has no room. -/
import Derived.Test.YtbibokkclejapaaDoorIndWrite
namespace Go.Proofs.YtbibokkclejapaaDoor
open Go.RowKit
set_option linter.unusedVariables false
set_option linter.unusedSimpArgs false

/-- What a write of one byte leaves: a fresh row with that behind the others. -/
def WFullPost (b q : Nat) (l : List UInt8) (z : Int) (w : World) (e : Ending) (w' : World) : Prop :=
  ∃ g cap cur, e = .returned (.tuple #[.int .i64 1, .nilIface]) ∧ w'.cell? ⟨b, q, none⟩ = some (.slice (some ⟨g, 0, none⟩) (l.length + 1) cap) ∧ w'.heap[g]? = some (.cells cur 5 (0, 0)) ∧ cur.size = cap ∧ l.length + 1 ≤ cap ∧ cap ≤ maxLen ∧ cur.toList.take (l.length + 1) = Lib.byteCells l ++ [.int .u8 z] ∧ g ≠ b ∧ w.heap.size ≤ g ∧ KeptB b q (w.setCell ⟨b, q + 2, none⟩ (.int .i8 0)) w'

set_option maxRecDepth 100000 in
set_option maxHeartbeats 1000000 in
theorem write_full (b q m cap c : Nat) (A : Option Addr) (l : List UInt8) (z : Int) (a : Addr) (lr : Int) (w : World) (hml : m = l.length) (c0 : w.cell? ⟨b, q, none⟩ = some (.slice A m cap)) (c2 : w.cell? ⟨b, q + 2, none⟩ = some (.int .i8 lr)) (f : ∀ j, w.frozen? ⟨b, j, none⟩ = false)
    (hmc : m ≤ cap) (hcm : cap ≤ 1000000) (hno : cap < m + 1) (hab : a.block ≠ b) (ha : w.cell? a = some (.int .u8 z))
    (hgrow : Calls Tryd.prog 61 #[.pointer (some ⟨b, q, none⟩), .int .i64 1] (w.setCell ⟨b, q + 2, none⟩ (.int .i8 0)) (GrowPost b q 1 l (w.setCell ⟨b, q + 2, none⟩ (.int .i8 0)))) :
    Calls Tryd.prog 69 #[.pointer (some ⟨b, q, none⟩), .slice (some a) 1 c] w (WFullPost b q l z w) := by
  have hz := lt_of_cell c0
  have fq2 := f (q + 2)
  have k0 : (w.setCell ⟨b, q + 2, none⟩ (.int .i8 0)).cell? ⟨b, q, none⟩ = some (.slice A m cap) := (World.cell?_setCell_other _ _ _ _ (by intro e; injection e with _ e2; omega)).trans c0
  have ja : (w.setCell ⟨b, q + 2, none⟩ (.int .i8 0)).cell? a = some (.int .u8 z) := (World.cell?_setCell_other _ _ _ _ (by first | (intro e; exact hab (congrArg Addr.block e)) | (intro e; exact hab (congrArg Addr.block e).symm))).trans ha
  have hWs : (w.setCell ⟨b, q + 2, none⟩ (.int .i8 0)).heap.size = w.heap.size := by simp [World.setCell]
  have htr := Go.Lib.hid (try_none b q A cap m 1 (w.setCell ⟨b, q + 2, none⟩ (.int .i8 0)) k0 hmc hno (by unfold maxLen; omega))
  have HGR := Go.Lib.hid hgrow
  have HML := Go.Lib.hid hml
  have HWS := Go.Lib.hid hWs
  have JA := Go.Lib.hid ja
  clear hgrow f k0 hml hWs ja ha
  go_enter Tryd.func69, Tryd.ntmps69
  go_wp2_with fail
  refine htr.out.mono ?_
  rintro e w2 ⟨rfl, hw2⟩
  subst hw2
  go_wp2_with fail
  refine HGR.out.mono ?_
  rintro e w3 ⟨g, cap3, cur, rfl, h0, hg, hcs, hroom, hcm3, htk, hgb, hge, hk⟩
  rw [← HML.out] at h0 hroom ⊢
  have hz3 : b < w3.heap.size := lt_of_cell h0
  have haz : a.block < (w.setCell ⟨b, q + 2, none⟩ (.int .i8 0)).heap.size := by
    by_cases hq : a.block < (w.setCell ⟨b, q + 2, none⟩ (.int .i8 0)).heap.size
    · exact hq
    · have := JA.out
      rw [World.cell?, Array.getElem?_eq_none (by omega)] at this
      cases this
  have ja3 : w3.cell? a = some (.int .u8 z) := (World.cell?_of_block (w := w.setCell ⟨b, q + 2, none⟩ (.int .i8 0)) (hk.rest a.block haz hab)).trans JA.out
  have hinfo : (Tryd.prog.info? 5).map (·.size) = some 1 := by kernel_rfl
  have hcp := run_copy_row (P := Tryd.prog) w3 51 51 3 5 g m 1 (cap3 - m) a 1 c cur 5 [.int .u8 z] Tryd.underlying51 hinfo hg rfl (fun j v hv => by
    match j, hv with
    | 0, hv =>
      simp at hv
      subst hv
      rw [show a.add 0 = a by simp [Addr.add]]
      exact ja3
    | j + 1, hv => simp at hv) (by simp; omega) (fun v hv => by simp at hv; subst hv; rfl)
  have hfr := from_runB g m (m + 1) cap3 (by omega) (by omega)
  rw [show m + 1 - m = 1 by omega] at hfr
  have HX := Go.Lib.hid (And.intro hg (And.intro hcs (And.intro hcm3 (And.intro htk (And.intro hge hk)))))
  clear hg hcs htk hge hk ja3 hinfo hcm3
  go_wp2_with fail
  go_returns
  obtain ⟨hg, hcs, hcm3, htk, hge, hk⟩ := HX.out
  obtain ⟨X, hX⟩ : ∃ X, X = (List.take m cur.toList ++ Value.int .u8 z :: List.drop (m + 1) cur.toList).toArray := ⟨_, rfl⟩
  rw [← hX]
  have hcl : cur.toList.length = cap3 := by rw [Array.length_toList]; exact hcs
  have hoth : ∀ k, k ≠ g → (w3.setRow g X).heap[k]? = w3.heap[k]? := fun k h => setRow_other w3 g k X h
  refine ⟨g, cap3, X, rfl, ?_, setRow_heap w3 g cur X _ _ hg, ?_, by rw [← HML.out]; exact hroom, hcm3, ?_, hgb, by rw [← HWS.out]; exact hge, ⟨hk.os, hk.tape, hk.output, by rw [setRow_size]; exact hk.size, fun k h1 h2 => (hoth k (by omega)).trans (hk.rest k h1 h2), fun o ho => (World.cell?_of_block (w := w3) (hoth b (fun e => hgb e.symm))).trans (hk.cells o ho), fun j => (World.frozen?_of_block (w := w3) (hoth b (fun e => hgb e.symm))).trans (hk.fz j)⟩⟩
  · rw [← HML.out]
    exact (World.cell?_of_block (w := w3) (hoth b (fun e => hgb e.symm))).trans h0
  · rw [hX]
    simp [hcl]
    omega
  · rw [hX, ← HML.out]
    have h1 : (List.take m cur.toList).length = m := by rw [List.length_take, hcl]; omega
    rw [List.take_append, h1, List.take_of_length_le (by omega), show m + 1 - m = 1 by omega]
    have h2 := htk
    rw [← HML.out] at h2
    rw [h2]
    rfl
end Go.Proofs.YtbibokkclejapaaDoor
