/- The place of a row and a column: TranslateRowColToIndex, impl.Index, spec.Index. -/
import Derived.Test.YtedjjimabchffaaDocPos
namespace Go.Proofs.Ytedjjimabchffaa
open Go.RowKit
set_option linter.unusedVariables false
set_option linter.unusedSimpArgs false

/-- The place of a row and a column, the nearest one that there is. -/
def idxOf (ls : List ByteArray) (r c : Nat) : Nat := startOf ls r + min c (ln ls r).size

set_option maxHeartbeats 4000000 in
theorem trans_index (b : Nat) (s : ByteArray) (k : Nat) (row : Int) (r c : Nat) (w : World) (hd : DocAt w b s k) (hs : s.size ≤ 1000) (hrow : (row < 0 ∧ -50 ≤ row ∧ r = 0) ∨ row = r) (hr : r < (lines s).length) (hc : c ≤ 2000) :
    Calls Try.prog 25 #[.pointer (some ⟨b, 0, none⟩), .int .i64 row, .int .i64 (c : Nat)] w fun e w' => e = .returned (.int .i64 (idxOf (lines s) r c : Nat)) ∧ Below w.heap.size w w' := by
  have HD := Go.Lib.hid hd
  have hll := lines_len s
  have hfit := line_fits s r hr
  rw [← ln_eq (lines s) r hr] at hfit
  have hrr : r < rows s ∧ (lines s).length ≤ rows s := by unfold rows; split <;> omega
  obtain ⟨ls, hls⟩ : ∃ ls, ls = lines s := ⟨_, rfl⟩
  rw [← hls] at hll hfit hr hrr ⊢
  obtain ⟨S, hS⟩ : ∃ S, S = startOf ls r := ⟨_, rfl⟩
  obtain ⟨n, hn⟩ : ∃ n, n = (ln ls r).size := ⟨_, rfl⟩
  obtain ⟨R, hR⟩ : ∃ R, R = rows s := ⟨_, rfl⟩
  obtain ⟨L, hL⟩ : ∃ L, L = ls.length := ⟨_, rfl⟩
  obtain ⟨T, hT⟩ : ∃ T, T = idxOf ls r c := ⟨_, rfl⟩
  have hTv : T = S + min c n := by rw [hT, hS, hn]; rfl
  rw [← hS, ← hn] at hfit
  rw [← hR, ← hL] at hrr
  rw [← hL] at hll hr
  rw [← hT]
  have HLS := Go.Lib.hid hls
  have HS := Go.Lib.hid hS
  have HN := Go.Lib.hid hn
  have HR := Go.Lib.hid hR
  have HL := Go.Lib.hid hL
  have HTV := Go.Lib.hid hTv
  have HSZ : Hid (((ln ls r).size : Int) = n) := by rw [hn, Hid]
  obtain ⟨hrr1, hrr2⟩ := hrr
  have hr0 : (0 : Int) ≤ r := by omega
  have hrL : (r : Int) < L := by omega
  have hrR : (r : Int) < R := by omega
  clear hd hls hS hn hR hL hT hTv
  rcases hrow with ⟨hneg, hneg2, rfl⟩ | rfl
  all_goals
    go_enter Try.func25, Try.ntmps25
    go_wp2_with fail
    refine (starts_any b s k w HD.out hs).mono ?_
    rintro e w1 ⟨g, cap, rfl, hc1, hc2, hg, hP, b1⟩
    rw [← HR.out] at hc1 hP ⊢
    have hPr := hP.2.2.2 _ hrr1
    simp only [← HLS.out] at hPr
    rw [← HS.out] at hPr
    have hlt1 := hP.1
    clear hP
    go_wp2_with fail
    refine (lines_any b s k w1 (HD.out.below b1) hs).mono ?_
    rw [← HLS.out]
    rintro e w2 ⟨g2, cap2, rfl, hg2, hS2, b2⟩
    rw [← HL.out]
    have hsr := hS2.2 _ (by rw [← HL.out]; exact hr)
    have b12 := b1.trans (b2.mono b1.size)
    have hd2 := (HD.out.below b12).1
    have hlt2 := hS2.1
    clear hS2 b1 b2
    by_cases x1 : (n : Int) < c
    · have x2 : (0 : Int) < c := by omega
      have hv : (S : Int) + n = T := by have := HTV.out; omega
      have hsz := HSZ.out
      have x3 : ¬ (s.size : Int) < (T : Int) := by omega
      go_wp2_with fail
      go_returns
      exact ⟨rfl, b12⟩
    · have hv : (S : Int) + c = T := by have := HTV.out; omega
      have hsz := HSZ.out
      have x3 : ¬ (s.size : Int) < (T : Int) := by omega
      by_cases x2 : (0 : Int) < c
      · go_wp2_with fail
        go_returns
        exact ⟨rfl, b12⟩
      · by_cases x4 : (0 : Int) < n
        · have HV2 : Hid ((S : Int) = T) := by rw [Hid]; omega
          clear hv
          go_wp2_with fail
          go_returns
          exact ⟨congrArg (fun x => Ending.returned (.int .i64 x)) HV2.out, b12⟩
        · have HV2 : Hid ((S : Int) = T) := by rw [Hid]; omega
          clear hv
          go_wp2_with fail
          go_returns
          exact ⟨congrArg (fun x => Ending.returned (.int .i64 x)) HV2.out, b12⟩

def ClIdx (T : Nat) (r : Addr) (w : World) (e : Ending) (w' : World) : Prop :=
  e = .returned (.tuple #[]) ∧ ∃ W, Below w.heap.size w W ∧ w' = W.setCell r (.int .i64 (T : Nat))

set_option maxHeartbeats 1000000 in
theorem closure_idx (b : Nat) (s : ByteArray) (row : Int) (r c : Nat) (w : World) (hs : s.size ≤ 1000) (hrow : (row < 0 ∧ -50 ≤ row ∧ r = 0) ∨ row = r) (hr : r < (lines s).length) (hc : c ≤ 2000)
    (c0 : w.cell? ⟨b, 0, none⟩ = some (.string s)) (c1 : w.cell? ⟨b + 1, 0, none⟩ = some (.int .i64 row)) (c2 : w.cell? ⟨b + 2, 0, none⟩ = some (.int .i64 (c : Nat))) (c3 : w.cell? ⟨b + 3, 0, none⟩ = some (.int .i64 0))
    (f3 : w.frozen? ⟨b + 3, 0, none⟩ = false) :
    Calls Try.prog 23 #[.pointer (some ⟨b, 0, none⟩), .pointer (some ⟨b + 1, 0, none⟩), .pointer (some ⟨b + 2, 0, none⟩), .pointer (some ⟨b + 3, 0, none⟩)] w (ClIdx (idxOf (lines s) r c) ⟨b + 3, 0, none⟩ w) := by
  have l3 := World.block_lt_of_cell? (a := ⟨b + 3, 0, none⟩) _ c3
  simp at l3
  have l2 : b + 2 < w.heap.size := by omega
  have l1 : b + 1 < w.heap.size := by omega
  have l0 : b < w.heap.size := by omega
  have n2 : ¬ b + 2 = w.heap.size := by omega
  have n1 : ¬ b + 1 = w.heap.size := by omega
  have n0 : ¬ b = w.heap.size := by omega
  have HDn : Hid (DocAt ((w.alloc (.cells #[.string s, .int .i64 0] 55)).drew) w.heap.size s 0) := ⟨by simp [go_sem], by simp [go_sem], by simp⟩
  have HRow := Go.Lib.hid hrow
  have HR := Go.Lib.hid hr
  clear hrow hr
  go_enter Try.func23, Try.ntmps23
  go_wp2_with fail
  go_region_with (first | (go_at_call 24; (with_reducible refine (document_at s 0 _).mono ?_); rintro e w1 ⟨rfl, rfl⟩) | (go_at_call 25; (with_reducible refine (trans_index w.heap.size s 0 row r c _ HDn.out hs HRow.out HR.out hc).mono ?_); rintro e w1 ⟨rfl, b1⟩; have hb : Below w.heap.size w w1 := (((Below.refl _ _).alloc (Nat.le_refl _) _).drew).trans (b1.mono (by simp)); have k3 : w1.cell? ⟨b + 3, 0, none⟩ = some (.int .i64 0) := (hb.cell (p := ⟨b + 3, 0, none⟩) (by simp; omega)).trans c3; have g3 : w1.frozen? ⟨b + 3, 0, none⟩ = false := (hb.frozen (p := ⟨b + 3, 0, none⟩) (by simp; omega)).trans f3))
  all_goals go_returns
  all_goals exact ⟨rfl, _, by assumption, rfl⟩

theorem caught_idx (b : Nat) (s : ByteArray) (row : Int) (r c : Nat) (w : World) (hs : s.size ≤ 1000) (hrow : (row < 0 ∧ -50 ≤ row ∧ r = 0) ∨ row = r) (hr : r < (lines s).length) (hc : c ≤ 2000)
    (c0 : w.cell? ⟨b, 0, none⟩ = some (.string s)) (c1 : w.cell? ⟨b + 1, 0, none⟩ = some (.int .i64 row)) (c2 : w.cell? ⟨b + 2, 0, none⟩ = some (.int .i64 (c : Nat))) (c3 : w.cell? ⟨b + 3, 0, none⟩ = some (.int .i64 0))
    (f3 : w.frozen? ⟨b + 3, 0, none⟩ = false) :
    Calls Try.prog 22 #[.func (.func 23) #[] #[.pointer (some ⟨b, 0, none⟩), .pointer (some ⟨b + 1, 0, none⟩), .pointer (some ⟨b + 2, 0, none⟩), .pointer (some ⟨b + 3, 0, none⟩)]] w
      fun e w' => e = .returned (.bool true) ∧ w'.cell? ⟨b + 3, 0, none⟩ = some (.int .i64 (idxOf (lines s) r c : Nat)) ∧ w'.frozen? ⟨b + 3, 0, none⟩ = false ∧ Below b w w' := by
  have eg : ∀ args w, (callFunc 23 args).run Try.prog w = .ok (.enter 23 args) w := fun args w => by kernel_rfl
  have l3 := World.block_lt_of_cell? (a := ⟨b + 3, 0, none⟩) _ c3
  simp at l3
  have far : ∀ {p : Addr}, p.block < w.heap.size → (w.alloc (.cells #[.bool false] 4)).cell? p = w.cell? p := fun {p} hp => (((Below.refl w.heap.size w).alloc (Nat.le_refl _) _).cell hp)
  have farf : ∀ {p : Addr}, p.block < w.heap.size → (w.alloc (.cells #[.bool false] 4)).frozen? p = w.frozen? p := fun {p} hp => (((Below.refl w.heap.size w).alloc (Nat.le_refl _) _).frozen hp)
  have hcl := closure_idx b s row r c (w.alloc (.cells #[.bool false] 4)) hs hrow hr hc ((far (p := ⟨b, 0, none⟩) (by show b < _; omega)).trans c0) ((far (p := ⟨b + 1, 0, none⟩) (by show b + 1 < _; omega)).trans c1) ((far (p := ⟨b + 2, 0, none⟩) (by show b + 2 < _; omega)).trans c2) ((far (p := ⟨b + 3, 0, none⟩) l3).trans c3) ((farf (p := ⟨b + 3, 0, none⟩) l3).trans f3)
  refine (caught_ret 23 _ w (fun w1 => ∃ W, Below (w.heap.size + 1) (w.alloc (.cells #[.bool false] 4)) W ∧ w1 = W.setCell ⟨b + 3, 0, none⟩ (.int .i64 (idxOf (lines s) r c : Nat))) eg ?_).mono ?_
  · refine hcl.mono ?_
    rintro e w1 ⟨rfl, W, hb, rfl⟩
    have hb' : Below (w.heap.size + 1) (w.alloc (.cells #[.bool false] 4)) W := hb.mono (by simp)
    have hh : W.heap[w.heap.size]? = (w.alloc (.cells #[.bool false] 4)).heap[w.heap.size]? := hb'.block _ (by omega)
    have hh2 : (W.setCell ⟨b + 3, 0, none⟩ (.int .i64 (idxOf (lines s) r c : Nat))).heap[w.heap.size]? = (w.alloc (.cells #[.bool false] 4)).heap[w.heap.size]? :=
      (Below.heap_setCell _ _ _ _ (show w.heap.size ≠ b + 3 by omega)).trans hh
    exact ⟨rfl, ⟨W, hb', rfl⟩, (World.cell?_of_block (a := ⟨w.heap.size, 0, none⟩) hh2).trans (by simp), (World.frozen?_of_block (a := ⟨w.heap.size, 0, none⟩) hh2).trans (by simp)⟩
  · rintro e w1 ⟨rfl, w2, ⟨W, hb, rfl⟩, rfl⟩
    have hbw : Below w.heap.size w W := ((Below.refl _ _).alloc (Nat.le_refl _) _).trans (hb.mono (by omega))
    have k3 : W.cell? ⟨b + 3, 0, none⟩ = some (.int .i64 0) := (hbw.cell (p := ⟨b + 3, 0, none⟩) l3).trans c3
    have g3 : W.frozen? ⟨b + 3, 0, none⟩ = false := (hbw.frozen (p := ⟨b + 3, 0, none⟩) l3).trans f3
    refine ⟨rfl, ?_, ?_, ?_⟩
    · rw [World.cell?_setCell_other _ _ _ _ (by intro e; have := congrArg Addr.block e; simp at this; omega), World.cell?_setCell_same' _ _ _ (by rw [k3]; rfl)]
    · simpa [go_sem] using g3
    · exact ((hbw.mono (by omega)).setCell (show b ≤ b + 3 by omega) _).setCell (show b ≤ w.heap.size by omega) _

theorem index_any' (s : ByteArray) (row : Int) (r c : Nat) (w : World) (hs : s.size ≤ 1000) (hrow : (row < 0 ∧ -50 ≤ row ∧ r = 0) ∨ row = r) (hr : r < (lines s).length) (hc : c ≤ 2000) :
    Calls Try.prog 14 #[.string s, .int .i64 row, .int .i64 (c : Nat)] w fun e w' => e = .returned (.tuple #[.int .i64 (idxOf (lines s) r c : Nat), .bool true]) ∧ Below w.heap.size w w' := by
  have hmf : ∀ (fn : Fn) (first cap : Array Value) (w : World), (Instr.makeFunc fn first cap).run Try.prog w = .ok (.func fn first cap) w := fun _ _ _ _ => rfl
  have HRow := Go.Lib.hid hrow
  have HR := Go.Lib.hid hr
  clear hrow hr
  obtain ⟨T, hT⟩ : ∃ T, T = idxOf (lines s) r c := ⟨_, rfl⟩
  rw [← hT]
  have HT := Go.Lib.hid hT
  clear hT
  go_enter Try.func14, Try.ntmps14
  go_wp2_with fail
  refine (caught_idx w.heap.size s row r c _ hs HRow.out HR.out hc ?_ ?_ ?_ ?_ ?_).mono ?_
  · first | rfl | simp [go_sem]
  · first | rfl | simp [go_sem]
  · first | rfl | simp [go_sem]
  · first | rfl | simp [go_sem]
  · first | rfl | simp [go_sem]
  rw [← HT.out]
  rintro e w1 ⟨rfl, k3, g3, b1⟩
  have hb1 : Below w.heap.size w w1 := (((((Below.refl _ _).alloc (Nat.le_refl _) _).alloc (by simp) _).alloc (by simp; omega) _).alloc (by simp; omega) _).trans b1
  clear b1
  go_wp2_with fail
  have q3 : (w1.setCell ⟨w.heap.size + 1 + 1 + 1, 0, none⟩ (.int .i64 (T : Nat))).cell? ⟨w.heap.size + 1 + 1 + 1, 0, none⟩ = some (.int .i64 (T : Nat)) := by
    rw [World.cell?_setCell_same' _ _ _ (by rw [k3]; rfl)]
  refine bodyPost_ret (v := .tuple #[.int .i64 (T : Nat), .bool true]) (by simp [results, Try.results14, go_sem, q3]) rfl ⟨rfl, ?_⟩
  exact hb1.setCell (by simp; omega) _
end Go.Proofs.Ytedjjimabchffaa
