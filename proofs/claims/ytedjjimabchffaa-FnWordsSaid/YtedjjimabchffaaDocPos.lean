/- The row and the column of a place: TranslateIndexToPosition, impl.RowColumn. -/
import Derived.Test.YtedjjimabchffaaDocFind
import Derived.Test.YtedjjimabchffaaCaught
namespace Go.Proofs.Ytedjjimabchffaa
open Go.RowKit
set_option linter.unusedVariables false
set_option linter.unusedSimpArgs false

def PosPost (s : ByteArray) (i : Nat) (w : World) (e : Ending) (w' : World) : Prop :=
  e = .returned (.tuple #[.int .i64 (nl s i : Nat), .int .i64 ((i : Int) - (startOf (lines s) (nl s i) : Nat))]) ∧ Below w.heap.size w w'

theorem index_pos (b : Nat) (s : ByteArray) (k i : Nat) (w : World) (hd : DocAt w b s k) (hs : s.size ≤ 1000) (hi : i ≤ s.size) :
    Calls Try.prog 28 #[.pointer (some ⟨b, 0, none⟩), .int .i64 (i : Nat)] w (PosPost s i w) := by
  have HD := Go.Lib.hid hd
  clear hd
  have hle := (start_le s i hi).2
  obtain ⟨S, hS⟩ : ∃ S, S = startOf (lines s) (nl s i) := ⟨_, rfl⟩
  unfold PosPost
  rw [← hS] at hle ⊢
  have HS := Go.Lib.hid hS
  clear hS
  go_enter Try.func28, Try.ntmps28
  go_wp2_with fail
  refine (find_start b s k i w HD.out hs hi).mono ?_
  rw [← HS.out]
  rintro e w1 ⟨rfl, b1⟩
  go_wp2_with fail
  go_returns
  exact ⟨rfl, b1⟩

def ClPos (s : ByteArray) (i : Nat) (r c : Addr) (w : World) (e : Ending) (w' : World) : Prop :=
  e = .returned (.tuple #[]) ∧ ∃ W, Below w.heap.size w W ∧ w' = (W.setCell r (.int .i64 (nl s i : Nat))).setCell c (.int .i64 ((i : Int) - (startOf (lines s) (nl s i) : Nat)))

set_option maxHeartbeats 1000000 in
theorem closure_pos (b : Nat) (s : ByteArray) (i : Nat) (v : Value) (w : World) (hs : s.size ≤ 1000) (hi : i ≤ s.size)
    (c0 : w.cell? ⟨b, 0, none⟩ = some (.string s)) (c1 : w.cell? ⟨b + 1, 0, none⟩ = some (.int .i64 (i : Nat))) (c2 : w.cell? ⟨b + 2, 0, none⟩ = some (.int .i64 0)) (c3 : w.cell? ⟨b + 3, 0, none⟩ = some (.int .i64 0))
    (f2 : w.frozen? ⟨b + 2, 0, none⟩ = false) (f3 : w.frozen? ⟨b + 3, 0, none⟩ = false) :
    Calls Try.prog 27 #[.pointer (some ⟨b, 0, none⟩), .pointer (some ⟨b + 1, 0, none⟩), .pointer (some ⟨b + 2, 0, none⟩), .pointer (some ⟨b + 3, 0, none⟩)] w (ClPos s i ⟨b + 2, 0, none⟩ ⟨b + 3, 0, none⟩ w) := by
  have l3 := World.block_lt_of_cell? (a := ⟨b + 3, 0, none⟩) _ c3
  simp at l3
  have l1 : b + 1 < w.heap.size := by omega
  have l0 : b < w.heap.size := by omega
  have n1 : ¬ b + 1 = w.heap.size := by omega
  have n0 : ¬ b = w.heap.size := by omega
  have HDn : Hid (DocAt ((w.alloc (.cells #[.string s, .int .i64 0] 55)).drew) w.heap.size s 0) := ⟨by simp [go_sem], by simp [go_sem], by simp⟩
  go_enter Try.func27, Try.ntmps27
  go_wp2_with fail
  go_region_with (first | (go_at_call 24; (with_reducible refine (document_at s 0 _).mono ?_); rintro e w1 ⟨rfl, rfl⟩) | (go_at_call 28; (with_reducible refine (index_pos w.heap.size s 0 i _ HDn.out hs hi).mono ?_); rintro e w1 ⟨rfl, b1⟩; have hb : Below w.heap.size w w1 := (((Below.refl _ _).alloc (Nat.le_refl _) _).drew).trans (b1.mono (by simp)); have k2 : w1.cell? ⟨b + 2, 0, none⟩ = some (.int .i64 0) := (hb.cell (p := ⟨b + 2, 0, none⟩) (by simp; omega)).trans c2; have k3 : w1.cell? ⟨b + 3, 0, none⟩ = some (.int .i64 0) := (hb.cell (p := ⟨b + 3, 0, none⟩) (by simp; omega)).trans c3; have g2 : w1.frozen? ⟨b + 2, 0, none⟩ = false := (hb.frozen (p := ⟨b + 2, 0, none⟩) (by simp; omega)).trans f2; have g3 : w1.frozen? ⟨b + 3, 0, none⟩ = false := (hb.frozen (p := ⟨b + 3, 0, none⟩) (by simp; omega)).trans f3))
  all_goals go_returns
  all_goals exact ⟨rfl, _, by assumption, rfl⟩

theorem caught_pos (b : Nat) (s : ByteArray) (i : Nat) (w : World) (hs : s.size ≤ 1000) (hi : i ≤ s.size)
    (c0 : w.cell? ⟨b, 0, none⟩ = some (.string s)) (c1 : w.cell? ⟨b + 1, 0, none⟩ = some (.int .i64 (i : Nat))) (c2 : w.cell? ⟨b + 2, 0, none⟩ = some (.int .i64 0)) (c3 : w.cell? ⟨b + 3, 0, none⟩ = some (.int .i64 0))
    (f2 : w.frozen? ⟨b + 2, 0, none⟩ = false) (f3 : w.frozen? ⟨b + 3, 0, none⟩ = false) :
    Calls Try.prog 22 #[.func (.func 27) #[] #[.pointer (some ⟨b, 0, none⟩), .pointer (some ⟨b + 1, 0, none⟩), .pointer (some ⟨b + 2, 0, none⟩), .pointer (some ⟨b + 3, 0, none⟩)]] w
      fun e w' => e = .returned (.bool true) ∧ w'.cell? ⟨b + 2, 0, none⟩ = some (.int .i64 (nl s i : Nat)) ∧ w'.cell? ⟨b + 3, 0, none⟩ = some (.int .i64 ((i : Int) - (startOf (lines s) (nl s i) : Nat))) ∧ w'.frozen? ⟨b + 2, 0, none⟩ = false ∧ w'.frozen? ⟨b + 3, 0, none⟩ = false ∧ Below b w w' := by
  have eg : ∀ args w, (callFunc 27 args).run Try.prog w = .ok (.enter 27 args) w := fun args w => by kernel_rfl
  have l3 := World.block_lt_of_cell? (a := ⟨b + 3, 0, none⟩) _ c3
  simp at l3
  have far : ∀ {p : Addr}, p.block < w.heap.size → (w.alloc (.cells #[.bool false] 4)).cell? p = w.cell? p := fun {p} hp => (((Below.refl w.heap.size w).alloc (Nat.le_refl _) _).cell hp)
  have farf : ∀ {p : Addr}, p.block < w.heap.size → (w.alloc (.cells #[.bool false] 4)).frozen? p = w.frozen? p := fun {p} hp => (((Below.refl w.heap.size w).alloc (Nat.le_refl _) _).frozen hp)
  have hcl := closure_pos b s i (.int .i64 0) (w.alloc (.cells #[.bool false] 4)) hs hi ((far (p := ⟨b, 0, none⟩) (by show b < _; omega)).trans c0) ((far (p := ⟨b + 1, 0, none⟩) (by show b + 1 < _; omega)).trans c1) ((far (p := ⟨b + 2, 0, none⟩) (by show b + 2 < _; omega)).trans c2) ((far (p := ⟨b + 3, 0, none⟩) l3).trans c3) ((farf (p := ⟨b + 2, 0, none⟩) (by show b + 2 < _; omega)).trans f2) ((farf (p := ⟨b + 3, 0, none⟩) l3).trans f3)
  refine (caught_ret 27 _ w (fun w1 => ∃ W, Below (w.heap.size + 1) (w.alloc (.cells #[.bool false] 4)) W ∧ w1 = (W.setCell ⟨b + 2, 0, none⟩ (.int .i64 (nl s i : Nat))).setCell ⟨b + 3, 0, none⟩ (.int .i64 ((i : Int) - (startOf (lines s) (nl s i) : Nat)))) eg ?_).mono ?_
  · refine hcl.mono ?_
    rintro e w1 ⟨rfl, W, hb, rfl⟩
    have hb' : Below (w.heap.size + 1) (w.alloc (.cells #[.bool false] 4)) W := hb.mono (by simp)
    have hh : W.heap[w.heap.size]? = (w.alloc (.cells #[.bool false] 4)).heap[w.heap.size]? := hb'.block _ (by omega)
    have hh2 : ((W.setCell ⟨b + 2, 0, none⟩ (.int .i64 (nl s i : Nat))).setCell ⟨b + 3, 0, none⟩ (.int .i64 ((i : Int) - (startOf (lines s) (nl s i) : Nat)))).heap[w.heap.size]? = (w.alloc (.cells #[.bool false] 4)).heap[w.heap.size]? :=
      (Below.heap_setCell _ _ _ _ (show w.heap.size ≠ b + 3 by omega)).trans ((Below.heap_setCell _ _ _ _ (show w.heap.size ≠ b + 2 by omega)).trans hh)
    exact ⟨rfl, ⟨W, hb', rfl⟩, (World.cell?_of_block (a := ⟨w.heap.size, 0, none⟩) hh2).trans (by simp), (World.frozen?_of_block (a := ⟨w.heap.size, 0, none⟩) hh2).trans (by simp)⟩
  · rintro e w1 ⟨rfl, w2, ⟨W, hb, rfl⟩, rfl⟩
    have hbw : Below w.heap.size w W := ((Below.refl _ _).alloc (Nat.le_refl _) _).trans (hb.mono (by omega))
    have k2 : W.cell? ⟨b + 2, 0, none⟩ = some (.int .i64 0) := (hbw.cell (p := ⟨b + 2, 0, none⟩) (by show b + 2 < _; omega)).trans c2
    have k3 : W.cell? ⟨b + 3, 0, none⟩ = some (.int .i64 0) := (hbw.cell (p := ⟨b + 3, 0, none⟩) l3).trans c3
    have g2 : W.frozen? ⟨b + 2, 0, none⟩ = false := (hbw.frozen (p := ⟨b + 2, 0, none⟩) (by show b + 2 < _; omega)).trans f2
    have g3 : W.frozen? ⟨b + 3, 0, none⟩ = false := (hbw.frozen (p := ⟨b + 3, 0, none⟩) l3).trans f3
    refine ⟨rfl, ?_, ?_, ?_, ?_, ?_⟩
    · rw [World.cell?_setCell_other _ _ _ _ (by intro e; have := congrArg Addr.block e; simp at this; omega), World.cell?_setCell_other _ _ _ _ (by simp), World.cell?_setCell_same' _ _ _ (by rw [k2]; rfl)]
    · rw [World.cell?_setCell_other _ _ _ _ (by intro e; have := congrArg Addr.block e; simp at this; omega), World.cell?_setCell_same' _ _ _ (by rw [World.cell?_setCell_other _ _ _ _ (by simp), k3]; rfl)]
    · simpa [go_sem] using g2
    · simpa [go_sem] using g3
    · exact (((hbw.mono (by omega)).setCell (show b ≤ b + 2 by omega) _).setCell (show b ≤ b + 3 by omega) _).setCell (show b ≤ w.heap.size by omega) _

theorem row_column (s : ByteArray) (i : Nat) (w : World) (hs : s.size ≤ 1000) (hi : i ≤ s.size) :
    Calls Try.prog 16 #[.string s, .int .i64 (i : Nat)] w fun e w' => e = .returned (.tuple #[.int .i64 (nl s i : Nat), .int .i64 ((i : Int) - (startOf (lines s) (nl s i) : Nat)), .bool true]) ∧ Below w.heap.size w w' := by
  have hmf : ∀ (fn : Fn) (first cap : Array Value) (w : World), (Instr.makeFunc fn first cap).run Try.prog w = .ok (.func fn first cap) w := fun _ _ _ _ => rfl
  obtain ⟨N, hN⟩ : ∃ N, N = nl s i := ⟨_, rfl⟩
  obtain ⟨C, hC⟩ : ∃ C, C = ((i : Int) - (startOf (lines s) (nl s i) : Nat)) := ⟨_, rfl⟩
  have HN := Go.Lib.hid hN
  have HC := Go.Lib.hid hC
  rw [← hC, ← hN]
  clear hN hC
  go_enter Try.func16, Try.ntmps16
  go_wp2_with fail
  refine (caught_pos w.heap.size s i _ hs hi ?_ ?_ ?_ ?_ ?_ ?_).mono ?_
  · first | rfl | simp [go_sem]
  · first | rfl | simp [go_sem]
  · first | rfl | simp [go_sem]
  · first | rfl | simp [go_sem]
  · first | rfl | simp [go_sem]
  · first | rfl | simp [go_sem]
  rw [← HC.out, ← HN.out]
  rintro e w1 ⟨rfl, k2, k3, g2, g3, b1⟩
  have hb1 : Below w.heap.size w w1 := (((((Below.refl _ _).alloc (Nat.le_refl _) _).alloc (by simp) _).alloc (by simp; omega) _).alloc (by simp; omega) _).trans b1
  clear b1
  go_wp2_with fail
  go_region
  go_wp2_with fail
  have q2 : ((w1.setCell ⟨w.heap.size + 1 + 1, 0, none⟩ (.int .i64 (N : Nat))).setCell ⟨w.heap.size + 1 + 1 + 1, 0, none⟩ (.int .i64 C)).cell? ⟨w.heap.size + 1 + 1, 0, none⟩ = some (.int .i64 (N : Nat)) := by
    rw [World.cell?_setCell_other _ _ _ _ (by simp), World.cell?_setCell_same' _ _ _ (by rw [k2]; rfl)]
  have q3 : ((w1.setCell ⟨w.heap.size + 1 + 1, 0, none⟩ (.int .i64 (N : Nat))).setCell ⟨w.heap.size + 1 + 1 + 1, 0, none⟩ (.int .i64 C)).cell? ⟨w.heap.size + 1 + 1 + 1, 0, none⟩ = some (.int .i64 C) := by
    rw [World.cell?_setCell_same' _ _ _ (by rw [World.cell?_setCell_other _ _ _ _ (by simp), k3]; rfl)]
  refine bodyPost_ret (v := .tuple #[.int .i64 (N : Nat), .int .i64 C, .bool true]) (by simp [results, Try.results16, go_sem, q2, q3]) rfl ⟨rfl, ?_⟩
  exact ((hb1.setCell (by simp; omega) _).setCell (by simp; omega) _).drew
end Go.Proofs.Ytedjjimabchffaa
