/- The row and the column of a place: bisect, findLineStartIndex, TranslateIndexToPosition, impl.RowColumn. -/
import Derived.Test.YtedjjimabchffaaDocStarts
import Derived.Test.YtedjjimabchffaaCaught
import Derived.Outline
namespace Go.Proofs.Ytedjjimabchffaa
open Go.RowKit
set_option linter.unusedVariables false
set_option linter.unusedSimpArgs false

/-- The world has answered to some draws, no more. -/
def Drew (w w' : World) : Prop := ∃ q, w' = w.drewN q

theorem gt_any (i n cap bs bv g : Nat) (v z : Int) (r : Bool) (w : World) (h0 : w.cell? ⟨bs, 0, none⟩ = some (.slice (some ⟨g, 0, none⟩) n cap)) (h1 : w.cell? ⟨bv, 0, none⟩ = some (.int .i64 v)) (hz : w.cell? ⟨g, i, none⟩ = some (.int .i64 z)) (hi : i < n) (hr : decide (v < z) = r) :
    Calls Try.prog 73 #[.int .i64 (i : Nat), .pointer (some ⟨bs, 0, none⟩), .pointer (some ⟨bv, 0, none⟩)] w fun e w' => e = .returned (.bool r) ∧ Drew w w' := by
  have hi0 : (0 : Int) ≤ i := by omega
  have hi1 : (i : Int) < n := by omega
  have HR := Go.Lib.hid hr
  clear hr
  go_enter Try.func73, Try.ntmps73
  go_wp2_with fail
  go_quiet (fail)
  go_wp2_with fail
  go_returns
  exact ⟨by rw [← HR.out]; rfl, _, rfl⟩

theorem search_any (n t cap bs bv g : Nat) (v : Int) (z : Nat → Int) (w : World) (hn : n ≤ 2000) (ht : t ≤ n)
    (hz1 : ∀ i, i < t → z i ≤ v) (hz2 : ∀ i, t ≤ i → i < n → v < z i)
    (h0 : w.cell? ⟨bs, 0, none⟩ = some (.slice (some ⟨g, 0, none⟩) n cap)) (h1 : w.cell? ⟨bv, 0, none⟩ = some (.int .i64 v)) (hc : ∀ i, i < n → w.cell? ⟨g, i, none⟩ = some (.int .i64 (z i))) :
    Calls Try.prog 72 #[.int .i64 (n : Nat), .func (.func 73) #[] #[.pointer (some ⟨bs, 0, none⟩), .pointer (some ⟨bv, 0, none⟩)]] w fun e w' => e = .returned (.int .i64 (t : Nat)) ∧ Drew w w' := by
  have HZ1 := Go.Lib.hid hz1
  have HZ2 := Go.Lib.hid hz2
  have H0 := Go.Lib.hid h0
  have H1 := Go.Lib.hid h1
  have HC := Go.Lib.hid hc
  clear hz1 hz2 h0 h1 hc
  go_enter Try.func72, Try.ntmps72
  go_wp2_with fail
  go_loopw [5, 6] (fun ti tj wr => ∃ (i j : Nat), ti = .int .i64 i ∧ tj = .int .i64 j ∧ i ≤ t ∧ t ≤ j ∧ j ≤ n ∧ Drew w wr) (fun ti tj _ => (intOf tj).toNat - (intOf ti).toNat)
  case atStart => exact ⟨0, n, rfl, rfl, Nat.zero_le _, ht, Nat.le_refl _, 0, rfl⟩
  case round =>
    obtain ⟨i, j, rfl, rfl, hi, hj, hjn, HD⟩ := hrel
    by_cases hlt : i < j
    · obtain ⟨m, hm⟩ : ∃ m : Nat, m = (i + j) / 2 := ⟨_, rfl⟩
      have hm1 : i ≤ m := by omega
      have hm2 : m < j := by omega
      have HM := Go.Lib.hid (show ((i : Int) + (j : Int)) / 2 = (m : Int) by omega)
      clear hm
      obtain ⟨q, rfl⟩ := HD
      by_cases hmt : m < t
      · go_wp2_with fail
        rw [HM.out]
        refine (gt_any m n cap bs bv g v (z m) false (w.drewN q) H0.out H1.out (HC.out m (by omega)) (by omega) (decide_eq_false (by have := HZ1.out m hmt; omega))).mono ?_
        rintro e w1 ⟨rfl, q1, rfl⟩
        go_wp2_with fail
        go_roundw
        case rel => exact ⟨m + 1, j, by go_num, rfl, by omega, hj, hjn, _, rfl⟩
        case measure => simp [intOf]; omega
      · go_wp2_with fail
        rw [HM.out]
        refine (gt_any m n cap bs bv g v (z m) true (w.drewN q) H0.out H1.out (HC.out m (by omega)) (by omega) (decide_eq_true (HZ2.out m (by omega) (by omega)))).mono ?_
        rintro e w1 ⟨rfl, q1, rfl⟩
        go_wp2_with fail
        go_roundw
        case rel => exact ⟨i, m, rfl, rfl, hi, by omega, by omega, _, rfl⟩
        case measure => simp [intOf]; omega
    · obtain rfl : i = t := by omega
      go_wp2_with fail
      go_returns
      exact ⟨rfl, HD⟩

theorem range_any (n t cap g : Nat) (v : Int) (z : Nat → Int) (w : World) (hn : n ≤ 2000) (ht : t ≤ n) (hcap : n ≤ cap) (hcap2 : cap ≤ 2000)
    (hz1 : ∀ i, i < t → z i ≤ v) (hz2 : ∀ i, t ≤ i → i < n → v < z i) (hg : g < w.heap.size) (hc : ∀ i, i < n → w.cell? ⟨g, i, none⟩ = some (.int .i64 (z i))) (hn1 : 1 ≤ n) :
    Calls Try.prog 69 #[.slice (some ⟨g, 0, none⟩) n cap, .int .i64 v, .int .i64 0, .int .i64 (n : Nat)] w fun e w' => e = .returned (.int .i64 (t : Nat)) ∧ Below w.heap.size w w' := by
  have HZ1 := Go.Lib.hid hz1
  have HZ2 := Go.Lib.hid hz2
  have HC := Go.Lib.hid hc
  have hmf : ∀ (fn : Fn) (first cap : Array Value) (w : World), (Instr.makeFunc fn first cap).run Try.prog w = .ok (.func fn first cap) w := fun _ _ _ _ => rfl
  have hn0 : (0 : Int) ≤ n := by omega
  have hn2 : (n : Int) ≤ cap := by omega
  have hc0 : ¬ cap = 0 := by omega
  clear hz1 hz2 hc
  go_enter Try.func69, Try.ntmps69
  go_wp2_with fail
  refine (search_any n t cap (w.heap.size + 1) w.heap.size g v z _ hn ht HZ1.out HZ2.out ?_ ?_ ?_).mono ?_
  · first | rfl | simp
  · first | rfl | simp
  · intro i hi
    have := HC.out i hi
    exact ((((Below.refl w.heap.size w).alloc (Nat.le_refl _) _).alloc (by simp) _).cell (p := ⟨g, i, none⟩) hg).trans this
  rintro e w1 ⟨rfl, q, rfl⟩
  go_wp2_with fail
  go_returns
  exact ⟨rfl, below_drewN (by go_grown) _⟩

theorem bisect_any (n t cap g : Nat) (v : Int) (z : Nat → Int) (w : World) (hn : n ≤ 2000) (ht : t ≤ n) (hcap : n ≤ cap) (hcap2 : cap ≤ 2000)
    (hz1 : ∀ i, i < t → z i ≤ v) (hz2 : ∀ i, t ≤ i → i < n → v < z i) (hg : g < w.heap.size) (hc : ∀ i, i < n → w.cell? ⟨g, i, none⟩ = some (.int .i64 (z i))) (hn1 : 1 ≤ n) :
    Calls Try.prog 63 #[.slice (some ⟨g, 0, none⟩) n cap, .int .i64 v] w fun e w' => e = .returned (.int .i64 (t : Nat)) ∧ Below w.heap.size w w' := by
  have HZ1 := Go.Lib.hid hz1
  have HZ2 := Go.Lib.hid hz2
  have HC := Go.Lib.hid hc
  clear hz1 hz2 hc
  go_enter Try.func63, Try.ntmps63
  go_wp2_with fail
  refine (range_any n t cap g v z w hn ht hcap hcap2 HZ1.out HZ2.out hg HC.out hn1).mono ?_
  rintro e w1 ⟨rfl, b1⟩
  go_wp2_with fail
  go_returns
  exact ⟨rfl, b1⟩

theorem rows_law (s : ByteArray) (i : Nat) (hi : i ≤ s.size) :
    nl s i + 1 ≤ rows s ∧ rows s ≤ s.size + 2 ∧ (∀ k, k < nl s i + 1 → ((startOf (lines s) k : Nat) : Int) ≤ i) ∧ (∀ k, nl s i + 1 ≤ k → k < rows s → (i : Int) < ((startOf (lines s) k : Nat) : Int)) := by
  obtain ⟨h1, h2, h3⟩ := lines_law s
  have h4 := (start_le s i hi).1
  have h5 := lines_len s
  have hm := nl_mono s s.size i hi
  unfold rows
  refine ⟨by split <;> omega, by split <;> omega, fun k hk => ?_, fun k hk hk2 => ?_⟩
  · have := (h3 k i (by omega) hi).2 (by omega)
    omega
  · by_cases hl : k < (lines s).length
    · have := (h3 k i hl hi)
      omega
    · rw [if_pos (by split at hk2 <;> omega)] at hk2
      have e1 : (lines s).length = 1 := by
        by_cases e : (lines s).length = 1
        · exact e
        · omega
      obtain rfl : k = 1 := by omega
      rw [e1] at h2
      omega

theorem find_start (b : Nat) (s : ByteArray) (k i : Nat) (w : World) (hd : DocAt w b s k) (hs : s.size ≤ 1000) (hi : i ≤ s.size) :
    Calls Try.prog 55 #[.pointer (some ⟨b, 0, none⟩), .int .i64 (i : Nat)] w fun e w' => e = .returned (.tuple #[.int .i64 (nl s i : Nat), .int .i64 (startOf (lines s) (nl s i) : Nat)]) ∧ Below w.heap.size w w' := by
  have HD := Go.Lib.hid hd
  clear hd
  obtain ⟨r1, r2, r3, r4⟩ := rows_law s i hi
  obtain ⟨R, hR⟩ : ∃ R, R = rows s := ⟨_, rfl⟩
  obtain ⟨N, hN⟩ : ∃ N, N = nl s i := ⟨_, rfl⟩
  rw [← hN] at r1 r3 r4 ⊢
  rw [← hR] at r1 r2 r4
  have R3 := Go.Lib.hid r3
  have R4 := Go.Lib.hid r4
  have HR := Go.Lib.hid hR
  clear r3 r4 hR hN
  go_enter Try.func55, Try.ntmps55
  go_wp2_with fail
  refine (starts_any b s k w HD.out hs).mono ?_
  rintro e w1 ⟨g, cap, rfl, hc1, hc2, hg, hP, b1⟩
  rw [← HR.out] at hc1 hP ⊢
  have HP := Go.Lib.hid hP
  have hlt := hP.1
  clear hP
  go_wp2_with fail
  obtain ⟨T, hT⟩ : ∃ T, T = N + 1 := ⟨_, rfl⟩
  refine (bisect_any R T cap g i _ w1 (by omega) (by omega) hc1 (by omega) (by rw [hT]; exact R3.out) (by rw [hT]; exact R4.out) hlt HP.out.2.2.2 (by omega)).mono ?_
  rintro e w2 ⟨rfl, b2⟩
  have b12 := b1.trans (b2.mono b1.size)
  have hc := (HP.out.below b2).2.2.2 N (by omega)
  have hN0 : (0 : Int) ≤ N := by omega
  have hN1 : (N : Int) < R := by omega
  have hNN : (T : Int) - 1 = N := by omega
  clear hT
  go_wp2_with fail
  go_returns
  exact ⟨rfl, b12⟩

def PosPost (s : ByteArray) (i : Nat) (w : World) (e : Ending) (w' : World) : Prop :=
  e = .returned (.tuple #[.int .i64 (nl s i : Nat), .int .i64 ((i : Int) - (startOf (lines s) (nl s i) : Nat))]) ∧ Below w.heap.size w w'

theorem index_pos (b : Nat) (s : ByteArray) (k i : Nat) (w : World) (hd : DocAt w b s k) (hs : s.size ≤ 1000) (hi : i ≤ s.size) :
    Calls Try.prog 28 #[.pointer (some ⟨b, 0, none⟩), .int .i64 (i : Nat)] w (PosPost s i w) := by
  have HD := Go.Lib.hid hd
  clear hd
  have hle := (start_le s i hi).2
  obtain ⟨S, hS⟩ : ∃ S, S = startOf (lines s) (nl s i) := ⟨_, rfl⟩
  unfold PosPost
  rw [← hS] at hle ⊢
  have HS := Go.Lib.hid hS
  clear hS
  go_enter Try.func28, Try.ntmps28
  go_wp2_with fail
  refine (find_start b s k i w HD.out hs hi).mono ?_
  rw [← HS.out]
  rintro e w1 ⟨rfl, b1⟩
  go_wp2_with fail
  go_returns
  exact ⟨rfl, b1⟩

def ClPos (s : ByteArray) (i : Nat) (r c : Addr) (w : World) (e : Ending) (w' : World) : Prop :=
  e = .returned (.tuple #[]) ∧ ∃ W, Below w.heap.size w W ∧ w' = (W.setCell r (.int .i64 (nl s i : Nat))).setCell c (.int .i64 ((i : Int) - (startOf (lines s) (nl s i) : Nat)))

set_option maxHeartbeats 1000000 in
theorem closure_pos (b : Nat) (s : ByteArray) (i : Nat) (v : Value) (w : World) (hs : s.size ≤ 1000) (hi : i ≤ s.size)
    (c0 : w.cell? ⟨b, 0, none⟩ = some (.string s)) (c1 : w.cell? ⟨b + 1, 0, none⟩ = some (.int .i64 (i : Nat))) (c2 : w.cell? ⟨b + 2, 0, none⟩ = some (.int .i64 0)) (c3 : w.cell? ⟨b + 3, 0, none⟩ = some (.int .i64 0))
    (f2 : w.frozen? ⟨b + 2, 0, none⟩ = false) (f3 : w.frozen? ⟨b + 3, 0, none⟩ = false) :
    Calls Try.prog 27 #[.pointer (some ⟨b, 0, none⟩), .pointer (some ⟨b + 1, 0, none⟩), .pointer (some ⟨b + 2, 0, none⟩), .pointer (some ⟨b + 3, 0, none⟩)] w (ClPos s i ⟨b + 2, 0, none⟩ ⟨b + 3, 0, none⟩ w) := by
  have l3 := World.block_lt_of_cell? (a := ⟨b + 3, 0, none⟩) _ c3
  simp at l3
  have l1 : b + 1 < w.heap.size := by omega
  have l0 : b < w.heap.size := by omega
  have n1 : ¬ b + 1 = w.heap.size := by omega
  have n0 : ¬ b = w.heap.size := by omega
  have HDn : Hid (DocAt ((w.alloc (.cells #[.string s, .int .i64 0] 55)).drew) w.heap.size s 0) := ⟨by simp [go_sem], by simp [go_sem], by simp⟩
  go_enter Try.func27, Try.ntmps27
  go_wp2_with fail
  go_region_with (first | (go_at_call 24; (with_reducible refine (document_at s 0 _).mono ?_); rintro e w1 ⟨rfl, rfl⟩) | (go_at_call 28; (with_reducible refine (index_pos w.heap.size s 0 i _ HDn.out hs hi).mono ?_); rintro e w1 ⟨rfl, b1⟩; have hb : Below w.heap.size w w1 := (((Below.refl _ _).alloc (Nat.le_refl _) _).drew).trans (b1.mono (by simp)); have k2 : w1.cell? ⟨b + 2, 0, none⟩ = some (.int .i64 0) := (hb.cell (p := ⟨b + 2, 0, none⟩) (by simp; omega)).trans c2; have k3 : w1.cell? ⟨b + 3, 0, none⟩ = some (.int .i64 0) := (hb.cell (p := ⟨b + 3, 0, none⟩) (by simp; omega)).trans c3; have g2 : w1.frozen? ⟨b + 2, 0, none⟩ = false := (hb.frozen (p := ⟨b + 2, 0, none⟩) (by simp; omega)).trans f2; have g3 : w1.frozen? ⟨b + 3, 0, none⟩ = false := (hb.frozen (p := ⟨b + 3, 0, none⟩) (by simp; omega)).trans f3))
  all_goals go_returns
  all_goals exact ⟨rfl, _, by assumption, rfl⟩

theorem caught_pos (b : Nat) (s : ByteArray) (i : Nat) (w : World) (hs : s.size ≤ 1000) (hi : i ≤ s.size)
    (c0 : w.cell? ⟨b, 0, none⟩ = some (.string s)) (c1 : w.cell? ⟨b + 1, 0, none⟩ = some (.int .i64 (i : Nat))) (c2 : w.cell? ⟨b + 2, 0, none⟩ = some (.int .i64 0)) (c3 : w.cell? ⟨b + 3, 0, none⟩ = some (.int .i64 0))
    (f2 : w.frozen? ⟨b + 2, 0, none⟩ = false) (f3 : w.frozen? ⟨b + 3, 0, none⟩ = false) :
    Calls Try.prog 22 #[.func (.func 27) #[] #[.pointer (some ⟨b, 0, none⟩), .pointer (some ⟨b + 1, 0, none⟩), .pointer (some ⟨b + 2, 0, none⟩), .pointer (some ⟨b + 3, 0, none⟩)]] w
      fun e w' => e = .returned (.bool true) ∧ w'.cell? ⟨b + 2, 0, none⟩ = some (.int .i64 (nl s i : Nat)) ∧ w'.cell? ⟨b + 3, 0, none⟩ = some (.int .i64 ((i : Int) - (startOf (lines s) (nl s i) : Nat))) ∧ w'.frozen? ⟨b + 2, 0, none⟩ = false ∧ w'.frozen? ⟨b + 3, 0, none⟩ = false ∧ Below b w w' := by
  have eg : ∀ args w, (callFunc 27 args).run Try.prog w = .ok (.enter 27 args) w := fun args w => by kernel_rfl
  have l3 := World.block_lt_of_cell? (a := ⟨b + 3, 0, none⟩) _ c3
  simp at l3
  have far : ∀ {p : Addr}, p.block < w.heap.size → (w.alloc (.cells #[.bool false] 4)).cell? p = w.cell? p := fun {p} hp => (((Below.refl w.heap.size w).alloc (Nat.le_refl _) _).cell hp)
  have farf : ∀ {p : Addr}, p.block < w.heap.size → (w.alloc (.cells #[.bool false] 4)).frozen? p = w.frozen? p := fun {p} hp => (((Below.refl w.heap.size w).alloc (Nat.le_refl _) _).frozen hp)
  have hcl := closure_pos b s i (.int .i64 0) (w.alloc (.cells #[.bool false] 4)) hs hi ((far (p := ⟨b, 0, none⟩) (by show b < _; omega)).trans c0) ((far (p := ⟨b + 1, 0, none⟩) (by show b + 1 < _; omega)).trans c1) ((far (p := ⟨b + 2, 0, none⟩) (by show b + 2 < _; omega)).trans c2) ((far (p := ⟨b + 3, 0, none⟩) l3).trans c3) ((farf (p := ⟨b + 2, 0, none⟩) (by show b + 2 < _; omega)).trans f2) ((farf (p := ⟨b + 3, 0, none⟩) l3).trans f3)
  refine (caught_ret 27 _ w (fun w1 => ∃ W, Below (w.heap.size + 1) (w.alloc (.cells #[.bool false] 4)) W ∧ w1 = (W.setCell ⟨b + 2, 0, none⟩ (.int .i64 (nl s i : Nat))).setCell ⟨b + 3, 0, none⟩ (.int .i64 ((i : Int) - (startOf (lines s) (nl s i) : Nat)))) eg ?_).mono ?_
  · refine hcl.mono ?_
    rintro e w1 ⟨rfl, W, hb, rfl⟩
    have hb' : Below (w.heap.size + 1) (w.alloc (.cells #[.bool false] 4)) W := hb.mono (by simp)
    have hh : W.heap[w.heap.size]? = (w.alloc (.cells #[.bool false] 4)).heap[w.heap.size]? := hb'.block _ (by omega)
    have hh2 : ((W.setCell ⟨b + 2, 0, none⟩ (.int .i64 (nl s i : Nat))).setCell ⟨b + 3, 0, none⟩ (.int .i64 ((i : Int) - (startOf (lines s) (nl s i) : Nat)))).heap[w.heap.size]? = (w.alloc (.cells #[.bool false] 4)).heap[w.heap.size]? :=
      (Below.heap_setCell _ _ _ _ (show w.heap.size ≠ b + 3 by omega)).trans ((Below.heap_setCell _ _ _ _ (show w.heap.size ≠ b + 2 by omega)).trans hh)
    exact ⟨rfl, ⟨W, hb', rfl⟩, (World.cell?_of_block (a := ⟨w.heap.size, 0, none⟩) hh2).trans (by simp), (World.frozen?_of_block (a := ⟨w.heap.size, 0, none⟩) hh2).trans (by simp)⟩
  · rintro e w1 ⟨rfl, w2, ⟨W, hb, rfl⟩, rfl⟩
    have hbw : Below w.heap.size w W := ((Below.refl _ _).alloc (Nat.le_refl _) _).trans (hb.mono (by omega))
    have k2 : W.cell? ⟨b + 2, 0, none⟩ = some (.int .i64 0) := (hbw.cell (p := ⟨b + 2, 0, none⟩) (by show b + 2 < _; omega)).trans c2
    have k3 : W.cell? ⟨b + 3, 0, none⟩ = some (.int .i64 0) := (hbw.cell (p := ⟨b + 3, 0, none⟩) l3).trans c3
    have g2 : W.frozen? ⟨b + 2, 0, none⟩ = false := (hbw.frozen (p := ⟨b + 2, 0, none⟩) (by show b + 2 < _; omega)).trans f2
    have g3 : W.frozen? ⟨b + 3, 0, none⟩ = false := (hbw.frozen (p := ⟨b + 3, 0, none⟩) l3).trans f3
    refine ⟨rfl, ?_, ?_, ?_, ?_, ?_⟩
    · rw [World.cell?_setCell_other _ _ _ _ (by intro e; have := congrArg Addr.block e; simp at this; omega), World.cell?_setCell_other _ _ _ _ (by simp), World.cell?_setCell_same' _ _ _ (by rw [k2]; rfl)]
    · rw [World.cell?_setCell_other _ _ _ _ (by intro e; have := congrArg Addr.block e; simp at this; omega), World.cell?_setCell_same' _ _ _ (by rw [World.cell?_setCell_other _ _ _ _ (by simp), k3]; rfl)]
    · simpa [go_sem] using g2
    · simpa [go_sem] using g3
    · exact (((hbw.mono (by omega)).setCell (show b ≤ b + 2 by omega) _).setCell (show b ≤ b + 3 by omega) _).setCell (show b ≤ w.heap.size by omega) _

theorem row_column (s : ByteArray) (i : Nat) (w : World) (hs : s.size ≤ 1000) (hi : i ≤ s.size) :
    Calls Try.prog 16 #[.string s, .int .i64 (i : Nat)] w fun e w' => e = .returned (.tuple #[.int .i64 (nl s i : Nat), .int .i64 ((i : Int) - (startOf (lines s) (nl s i) : Nat)), .bool true]) ∧ Below w.heap.size w w' := by
  have hmf : ∀ (fn : Fn) (first cap : Array Value) (w : World), (Instr.makeFunc fn first cap).run Try.prog w = .ok (.func fn first cap) w := fun _ _ _ _ => rfl
  obtain ⟨N, hN⟩ : ∃ N, N = nl s i := ⟨_, rfl⟩
  obtain ⟨C, hC⟩ : ∃ C, C = ((i : Int) - (startOf (lines s) (nl s i) : Nat)) := ⟨_, rfl⟩
  have HN := Go.Lib.hid hN
  have HC := Go.Lib.hid hC
  rw [← hC, ← hN]
  clear hN hC
  go_enter Try.func16, Try.ntmps16
  go_wp2_with fail
  refine (caught_pos w.heap.size s i _ hs hi ?_ ?_ ?_ ?_ ?_ ?_).mono ?_
  · first | rfl | simp [go_sem]
  · first | rfl | simp [go_sem]
  · first | rfl | simp [go_sem]
  · first | rfl | simp [go_sem]
  · first | rfl | simp [go_sem]
  · first | rfl | simp [go_sem]
  rw [← HC.out, ← HN.out]
  rintro e w1 ⟨rfl, k2, k3, g2, g3, b1⟩
  have hb1 : Below w.heap.size w w1 := (((((Below.refl _ _).alloc (Nat.le_refl _) _).alloc (by simp) _).alloc (by simp; omega) _).alloc (by simp; omega) _).trans b1
  clear b1
  go_wp2_with fail
  go_region
  go_wp2_with fail
  have q2 : ((w1.setCell ⟨w.heap.size + 1 + 1, 0, none⟩ (.int .i64 (N : Nat))).setCell ⟨w.heap.size + 1 + 1 + 1, 0, none⟩ (.int .i64 C)).cell? ⟨w.heap.size + 1 + 1, 0, none⟩ = some (.int .i64 (N : Nat)) := by
    rw [World.cell?_setCell_other _ _ _ _ (by simp), World.cell?_setCell_same' _ _ _ (by rw [k2]; rfl)]
  have q3 : ((w1.setCell ⟨w.heap.size + 1 + 1, 0, none⟩ (.int .i64 (N : Nat))).setCell ⟨w.heap.size + 1 + 1 + 1, 0, none⟩ (.int .i64 C)).cell? ⟨w.heap.size + 1 + 1 + 1, 0, none⟩ = some (.int .i64 C) := by
    rw [World.cell?_setCell_same' _ _ _ (by rw [World.cell?_setCell_other _ _ _ _ (by simp), k3]; rfl)]
  refine bodyPost_ret (v := .tuple #[.int .i64 (N : Nat), .int .i64 C, .bool true]) (by simp [results, Try.results16, go_sem, q2, q3]) rfl ⟨rfl, ?_⟩
  exact ((hb1.setCell (by simp; omega) _).setCell (by simp; omega) _).drew
end Go.Proofs.Ytedjjimabchffaa
