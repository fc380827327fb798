/- InsertText, not overwriting. -/
import Derived.Test.YtedjjimabchffaaDoorBufMove
namespace Go.Proofs.YtedjjimabchffaaDoor
open Go.RowKit
set_option linter.unusedVariables false
set_option linter.unusedSimpArgs false

/-- A text of ASCII that is not too long. -/
def Wide (s : ByteArray) : Prop := IsAscii s ∧ s.size ≤ 3000
theorem Small.wide {s : ByteArray} (h : Small s) : Wide s := ⟨h.1, by have := h.2; omega⟩

/-- The code points of a text, made in memory: the world behind it is a new one, and both sides of a place are read of it at any draw. -/
theorem runes_made (w : World) (s : ByteArray) (k : Nat) (hs : Wide s) (hk : k ≤ s.size) :
    ∃ B cap A W, (convert 9 25 (.string s)).run Tryd.prog w = .ok (.slice (some ⟨B, 0, none⟩) s.size cap) W ∧ Below w.heap.size w W ∧ k ≤ cap ∧ s.size ≤ cap ∧
      (∀ w, (Instr.slice 25 (.slice (some ⟨B, 0, none⟩) s.size cap) (some (.int .i64 (k : Nat))) none none).run Tryd.prog w = .ok (.slice A (s.size - k) (cap - k)) w) ∧
      (∀ n, (convert 25 9 (.slice (some ⟨B, 0, none⟩) k cap)).run Tryd.prog (W.drewN n) = .ok (.string (s.extract 0 k)) (W.drewN n)) ∧
      (∀ n, (convert 25 9 (.slice A (s.size - k) (cap - k))).run Tryd.prog (W.drewN n) = .ok (.string (s.extract k s.size)) (W.drewN n)) := by
  obtain ⟨ha, hsz⟩ := hs
  have hcv := fun w => run_runes (P := Tryd.prog) w 9 25 21 s Tryd.underlying9 Tryd.underlying25 Tryd.underlying21 (by omega)
  have hl := runes_ascii_length s ha
  have hcap := runeCap_ge w 21 s
  have hrow : ∀ j, j < s.size → (runeCells s (runeCap w 21 s))[j]? = some (.int .i32 (nth (runes s) j)) := fun j hj => runeCells_at s _ j (by omega)
  rw [hl] at hcv hcap
  obtain ⟨cap, hcp⟩ : ∃ cap, cap = runeCap w 21 s := ⟨_, rfl⟩
  have hcv0 := hcv w
  rw [← hcp] at hcv0 hcap hrow
  obtain ⟨A, hA, hA2⟩ := run_cut (P := Tryd.prog) 25 21 Tryd.underlying25 sizeI32 w.heap.size 0 s.size cap k k rfl hk hcap
  have hcell : ∀ j, j < s.size → (w.drew.alloc (.cells (runeCells s cap) 21)).cell? ⟨w.heap.size, j, none⟩ = some (.int .i32 (nth (runes s) j)) := fun j hj => by
    show ((w.alloc (.cells (runeCells s cap) 21)).drew).cell? ⟨w.heap.size, j, none⟩ = _
    simp [hrow j hj]
  obtain ⟨W, hW⟩ : ∃ W, W = w.drew.alloc (.cells (runeCells s cap) 21) := ⟨_, rfl⟩
  have hb : Below w.heap.size w W := by rw [hW]; exact ((Below.refl _ _).drew).alloc (Nat.le_refl _) _
  have hcv1 : (convert 9 25 (.string s)).run Tryd.prog w = .ok (.slice (some ⟨w.heap.size, 0, none⟩) s.size cap) W := by rw [hW]; exact hcv0
  rw [← hW] at hcell
  refine ⟨w.heap.size, cap, A, W, hcv1, hb, by omega, hcap, hA, fun n => ?_, fun n => ?_⟩
  · have := conv_sub (W.drewN n) w.heap.size 0 k cap s ha (by omega) (fun j _ h2 => hcell j (by omega))
    rwa [Nat.zero_add] at this
  · have hc : ∀ j, j < s.size → (W.drewN n).cell? ⟨w.heap.size, j, none⟩ = some (.int .i32 (nth (runes s) j)) := fun j hj => hcell j hj
    have := conv_tail (W.drewN n) A w.heap.size k cap s ha hk hcap hA2 hc (cap - k)
    exact this

set_option maxRecDepth 100000 in
set_option maxHeartbeats 4000000 in
theorem insert_text (bb lb : Nat) (s v : ByteArray) (k : Nat) (mv : Bool) (w : World) (h : Buf w bb lb s k) (hs : Wide s) (hv : Wide v) (hk : k ≤ s.size) :
    Calls Tryd.prog 31 #[.pointer (some ⟨bb, 0, none⟩), .string v, .bool false, .bool mv] w fun e w' => e = .returned (.tuple #[]) ∧ Buf w' bb lb (s.extract 0 k ++ v ++ s.extract k s.size) (if mv then k + v.size else k) ∧ Own bb lb w w' := by
  have H := Go.Lib.hid h
  clear h
  go_enter Tryd.func31, Tryd.ntmps31
  go_wp2_with fail
  refine (text_same bb lb s k w H.out).mono ?_
  rintro e w1 ⟨rfl, s1, s2, s3, s4⟩
  have H1 : Hid (Buf w1 bb lb s k) := H.out.like s1 s2 s3
  have B1 : Hid (Own bb lb w w1) := Own.of (s4 _)
  clear s1 s2 s3 s4
  obtain ⟨B, cap, A, W, hcv, hb, hk1, hcap, hA, hc1, hc2⟩ := runes_made w1 s k hs hk
  have H2 : Hid (Buf W bb lb s k) := H1.out.below hb
  have B2 : Hid (Own bb lb w W) := B1.out.after hb
  clear hb
  have c2 := H2.out.c2
  have hk0 : (0 : Int) ≤ k := by omega
  have hk2 : (k : Int) ≤ cap := by omega
  have hsum : ((s.extract 0 k).size : Nat) = k := by rw [size_sub s _ _ (by omega)]; omega
  have hss := hs.2
  have hvs := hv.2
  have hx2 := size_sub s k s.size (by omega)
  have hov1 : (9223372036854775807 < (s.extract 0 k).size + v.size) = False := by simp; omega
  have hov2 : (9223372036854775807 < (s.extract 0 k ++ v).size + (s.extract k s.size).size) = False := by simp [ByteArray.size_append]; omega
  have HS : Hid (Calls Tryd.prog 43 #[.pointer (some ⟨bb, 0, none⟩), .string (s.extract 0 k ++ v ++ s.extract k s.size)] W.drew fun e w' => e = .returned (.tuple #[]) ∧ Hid (Buf w' bb lb (s.extract 0 k ++ v ++ s.extract k s.size) k ∧ Own bb lb W w')) :=
    (set_text bb lb s _ k W.drew H2.out.drew).mono fun e w' ⟨he, h1, h2⟩ => ⟨he, h1, ((Own.refl _ _ _).drew).trans h2⟩
  have hc1' : (convert 25 9 (.slice (some ⟨B, 0, none⟩) k cap)).run Tryd.prog W.drew = .ok (.string (s.extract 0 k)) W.drew := hc1 1
  have hc2' : (convert 25 9 (.slice A (s.size - k) (cap - k))).run Tryd.prog W.drew = .ok (.string (s.extract k s.size)) W.drew := hc2 1
  clear hc1 hc2
  go_wp2_with fail
  go_region_with ((go_at_call 43; (with_reducible refine HS.out.mono ?_); rintro e w2 ⟨rfl, H3⟩))
  all_goals (
    clear hc1' hc2' hA hcv
    cases mv with
    | false =>
      go_wp2_with fail
      go_returns
      exact ⟨rfl, H3.out.1, B2.out.trans H3.out.2⟩
    | true =>
      obtain ⟨B', cap', A', W', hcv', hb', -, -, -, -, -⟩ := runes_made w2 v 0 hv (by omega)
      have H4 : Hid (Buf W' bb lb (s.extract 0 k ++ v ++ s.extract k s.size) k) := H3.out.1.below hb'
      have B4 : Hid (Own bb lb w W') := (B2.out.trans H3.out.2).after hb'
      have c3 := H3.out.1.c2
      have c4 := H4.out.c2
      have f4 := H4.out.f 2
      have hlt := H4.out.lt
      have hszz := H4.out.sz
      have hww : IntKind.i64.wrap ((k : Int) + (v.size : Int)) = (k : Int) + (v.size : Int) := IntWalk.i64_in _ (by omega)
      clear hb'
      go_wp2_with fail
      go_returns
      refine ⟨rfl, ?_, B4.out.setB _ _⟩
      have := H4.out.cursor (k + v.size)
      rw [Int.natCast_add] at this
      exact this)
end Go.Proofs.YtedjjimabchffaaDoor
