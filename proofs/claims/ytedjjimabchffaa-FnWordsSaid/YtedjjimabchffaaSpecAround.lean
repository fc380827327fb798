/- The contract of spec.AroundOf: what it tells of the words. -/
import Derived.Test.YtedjjimabchffaaSpecDoc
import Derived.Test.YtedjjimabchffaaAroundImpl
namespace Go.Proofs.Ytedjjimabchffaa
open Go.RowKit
set_option linter.unusedVariables false
set_option linter.unusedSimpArgs false

/-- What the walk keeps: all that lay below, and a block of fourteen cells. -/
def Room (w w' : World) : Prop := w.heap.size + 1 < w'.heap.size ∧ Below w.heap.size w w' ∧ Part w' (w.heap.size + 1) 14 0 (fun _ => 0)

theorem Room.below {w w1 w2 : World} (h : Room w w1) (b : Below w1.heap.size w1 w2) : Room w w2 :=
  ⟨Nat.lt_of_lt_of_le h.1 b.size, h.2.1.trans (b.mono h.2.1.size), h.2.2.below b⟩
theorem Room.drew {w w1 : World} (h : Room w w1) : Room w w1.drew := h.below (Below.refl _ _).drew

theorem keepR {w wp w1 : World} {x y : Value} (b1 : Below wp.heap.size wp w1) (h1 : wp.cell? ⟨w.heap.size, 0, none⟩ = some x) (h2 : wp.cell? ⟨w.heap.size, 1, none⟩ = some y) (h3 : Room w wp) :
    w1.cell? ⟨w.heap.size, 0, none⟩ = some x ∧ w1.cell? ⟨w.heap.size, 1, none⟩ = some y ∧ Room w w1 :=
  ⟨(b1.cell (p := ⟨w.heap.size, 0, none⟩) (by have := h3.1; show w.heap.size < _; omega)).trans h1, (b1.cell (p := ⟨w.heap.size, 1, none⟩) (by have := h3.1; show w.heap.size < _; omega)).trans h2, h3.below b1⟩

theorem room_start (w : World) (o : Obj) (cs : Array Value) (t : TypeId) (h : cs.size = 14) : Room w ((w.alloc o).alloc (.cells cs t)) := by
  refine ⟨by simp, ((Below.refl _ _).alloc (Nat.le_refl _) _).alloc (by simp) _, by simp, fun i hi => ?_, fun i => by simp [go_sem], fun i hi => by omega⟩
  have e : ((w.alloc o).alloc (.cells cs t)).cell? ⟨w.heap.size + 1, i, none⟩ = cs[i]? := by simp
  exact ⟨cs[i]'(by omega), by rw [e, Array.getElem?_eq_getElem (by omega)]⟩

theorem belowB {w w' : World} {e v : Ending} (h : e = v ∧ w = w') : e = v ∧ Below w.heap.size w w' := ⟨h.1, by rw [← h.2]; exact Below.refl _ _⟩

theorem Room.set {w w1 : World} (h : Room w w1) (j : Nat) (v : Value) : Room w (w1.setCell ⟨w.heap.size + 1, j, none⟩ v) := by
  obtain ⟨h1, h2, h3, h4, h5, h6⟩ := h
  refine ⟨by simpa using h1, h2.setCell (by show w.heap.size ≤ w.heap.size + 1; omega) _, by simpa using h3, fun i hi => ?_, fun i => ?_, fun i hi => by omega⟩
  · obtain ⟨v0, hv0⟩ := h4 i hi
    by_cases e : i = j
    · exact ⟨_, by rw [← e, World.cell?_setCell_same' _ _ _ (by rw [hv0]; rfl)]⟩
    · exact ⟨v0, by rw [World.cell?_setCell_other _ _ _ _ (by intro h; exact e (by have := congrArg Addr.off h; simpa using this.symm))]; exact hv0⟩
  · rw [World.frozen?_setCell]; exact h5 i

def SpecAroundPost (s : ByteArray) (k : Nat) (w : World) (e : Ending) (w' : World) : Prop :=
  ∃ (lb la l : ByteArray) (r c te : Int) (g n cap : Nat) (bb : Bool), e = .returned (.agg #[.string (s.extract 0 k), .string (s.extract k s.size), .string lb, .string la, .string l, .int .i64 r, .int .i64 c, .slice (some ⟨g, 0, none⟩) n cap, .bool bb, .int .i64 te,
    .string ((s.extract 0 k).extract (wStart (s.extract 0 k)) k), .string ((s.extract k s.size).extract 0 (wEnd (s.extract k s.size))), .string ((s.extract 0 k).extract (wStartS (s.extract 0 k)) k), .string ((s.extract k s.size).extract 0 (wEndS (s.extract k s.size)))]) ∧ Below w.heap.size w w'

set_option maxRecDepth 100000 in
set_option maxHeartbeats 8000000 in
theorem spec_around (s : ByteArray) (k : Nat) (w : World) (hs : Small s) (hk : k ≤ s.size) :
    Calls Try.prog 18 #[.agg #[.string s, .int .i64 (k : Nat)]] w (SpecAroundPost s k w) := by
  have HS := Go.Lib.hid hs
  have hsz := hs.2
  clear hs
  have hxs : (s.extract 0 k).size ≤ 1000 := by rw [size_sub s _ _ (by omega)]; omega
  have hys : (s.extract k s.size).size ≤ 1000 := by rw [size_sub s _ _ (by omega)]; omega
  have HXA := Go.Lib.hid (HS.out.1.extract 0 k)
  have HYA := Go.Lib.hid (HS.out.1.extract k s.size)
  obtain ⟨x, hx⟩ : ∃ x, x = s.extract 0 k := ⟨_, rfl⟩
  obtain ⟨y, hy⟩ : ∃ y, y = s.extract k s.size := ⟨_, rfl⟩
  rw [← hx] at hxs HXA
  rw [← hy] at hys HYA
  have B1 := fun w => spec_before s k w HS.out hk
  have B2 := fun w => spec_after s k w HS.out hk
  have B3 := fun w => spec_line_before s k w HS.out hk
  have B4 := fun w => spec_line_after s k w HS.out hk
  have B5 := fun w => spec_row s k w HS.out hk
  have B6 := fun w => spec_col s k w HS.out hk
  rw [← hx] at B1 B3 B5 B6
  rw [← hy] at B2 B4
  have HB1 := Go.Lib.hid B1
  have HB2 := Go.Lib.hid B2
  have HB3 := Go.Lib.hid B3
  have HB4 := Go.Lib.hid B4
  have HB5 := Go.Lib.hid B5
  have HB6 := Go.Lib.hid B6
  have HB7 := Go.Lib.hid (fun w => (count_ascii (sLineA y) w (sLineA_ascii HYA.out) (by have := sLineA_le y; omega)))
  have HB8 := Go.Lib.hid (fun w => (spec_start x w hxs).mono fun _ _ h => belowB h)
  have HB9 := Go.Lib.hid (fun w => (spec_start_spaced x w hxs).mono fun _ _ h => belowB h)
  have HB10 := Go.Lib.hid (fun w => (spec_end y w hys).mono fun _ _ h => belowB h)
  have HB11 := Go.Lib.hid (fun w => (spec_end_spaced y w hys).mono fun _ _ h => belowB h)
  have l1 := sLineB_le x
  have l2 := sLineA_le y
  have l3 := wStart_le x
  have l4 := wStartS_le x
  have l5 := wEnd_le y
  have l6 := wEndS_le y
  have lL := lines_len s
  have lP := lines_pos s
  have lL2 := lines_len x
  have lP2 := lines_pos x
  obtain ⟨n3, hn3⟩ : ∃ n, n = wStart x := ⟨_, rfl⟩
  obtain ⟨n4, hn4⟩ : ∃ n, n = wStartS x := ⟨_, rfl⟩
  obtain ⟨n5, hn5⟩ : ∃ n, n = wEnd y := ⟨_, rfl⟩
  obtain ⟨n6, hn6⟩ : ∃ n, n = wEndS y := ⟨_, rfl⟩
  obtain ⟨lb, hlb⟩ : ∃ n, n = sLineB x := ⟨_, rfl⟩
  obtain ⟨la, hla⟩ : ∃ n, n = sLineA y := ⟨_, rfl⟩
  obtain ⟨L, hL⟩ : ∃ n, n = (lines s).length := ⟨_, rfl⟩
  obtain ⟨L2, hL2⟩ : ∃ n, n = (lines x).length := ⟨_, rfl⟩
  rw [← hn3] at l3 HB8
  rw [← hn4] at l4 HB9
  rw [← hn5] at l5 HB10
  rw [← hn6] at l6 HB11
  rw [← hlb] at l1 HB3 HB6
  rw [← hla] at l2 HB4 HB7
  rw [← hL] at lL lP
  rw [← hL2] at lL2 lP2 HB5
  have HL := Go.Lib.hid hL
  have HXS : Hid (x.size = k) := by rw [hx, size_sub s _ _ (by omega)]; rfl
  have HV : Hid (x = s.extract 0 k ∧ y = s.extract k s.size ∧ n3 = wStart x ∧ n4 = wStartS x ∧ n5 = wEnd y ∧ n6 = wEndS y) := ⟨hx, hy, hn3, hn4, hn5, hn6⟩
  clear hx hy hn3 hn4 hn5 hn6 hlb hla hL hL2 B1 B2 B3 B4 B5 B6
  have i30 : (0 : Int) ≤ n3 := by omega
  have i31 : (n3 : Int) ≤ x.size := by omega
  have i40 : (0 : Int) ≤ n4 := by omega
  have i41 : (n4 : Int) ≤ x.size := by omega
  have i50 : (0 : Int) ≤ n5 := by omega
  have i51 : (n5 : Int) ≤ y.size := by omega
  have i60 : (0 : Int) ≤ n6 := by omega
  have i61 : (n6 : Int) ≤ y.size := by omega
  have lsum : (9223372036854775807 < lb.size + la.size) = False := eq_false (by omega)
  have iw : IntKind.i64.wrap ((L : Int) - 1) = (L : Int) - 1 := IntWalk.i64_in _ (by omega)
  go_enter Try.func18, Try.ntmps18
  go_wp2_with fail
  go_region_held3 (fun w' => w'.cell? ⟨w.heap.size, 0, none⟩ = some (.string s) ∧ w'.cell? ⟨w.heap.size, 1, none⟩ = some (.int .i64 (k : Nat)) ∧ Room w w') (first | (go_split_ands; exact keepR b1 (by assumption) (by assumption) (by assumption)) | exact ⟨by simp [go_sem], by simp [go_sem], (room_start w _ _ _ rfl).drew⟩ | go_keep) (first | (go_at_call 43; (with_reducible refine (HB1.out _).mono ?_); rintro e w1 ⟨rfl, b1⟩) | (go_at_call 44; (with_reducible refine (HB2.out _).mono ?_); rintro e w1 ⟨rfl, b1⟩))
  have c0 : w1.cell? ⟨w.heap.size, 0, none⟩ = some (.string s) := by go_split_ands; assumption
  have c1 : w1.cell? ⟨w.heap.size, 1, none⟩ = some (.int .i64 (k : Nat)) := by go_split_ands; assumption
  have hR : Room w w1 := by go_split_ands; assumption
  have hlt : w.heap.size < w1.heap.size := by have := hR.1; omega
  go_wp2_with fail
  refine (spec_lines s w1 hsz).mono ?_
  rintro e w2 ⟨g, cap, rfl, _, _, b2⟩
  rw [← HL.out]
  obtain ⟨d0, d1, hR2⟩ := keepR b2 c0 c1 hR
  clear c0 c1 hR hlt
  go_wp2_with fail
  refine wp_region_held_drew (S := (fun w' => w'.cell? ⟨w.heap.size, 0, none⟩ = some (.string s) ∧ w'.cell? ⟨w.heap.size, 1, none⟩ = some (.int .i64 (k : Nat)) ∧ Room w w')) (by kernel_rfl) ?_ (fun hHeld => ?_)
  · (try dsimp only); first | done | (first | (go_split_ands; exact keepR b1 (by assumption) (by assumption) (by assumption)) | exact ⟨d0, d1, hR2.drew⟩ | go_keep)
  refine wpAnyH_take (i := 0) (v := ?_) (by simp only [List.getElem?_toArray, List.getElem?_cons_succ, List.getElem?_cons_zero]; rfl) (by kernel_rfl) (by kernel_rfl) (by kernel_rfl) (by exact fun _ _ _ h => h) ?_ (by assumption) ?_
  rotate_left
  · refine Or.inl ⟨by rfl, ?_⟩
    (intro w hSw; (try dsimp only at hSw); go_simp; try with_reducible rfl)
  simp only [Act.put, List.setIfInBounds_toArray, List.set_cons_zero, List.set_cons_succ]
  refine wpAnyH_take (i := 1) (v := ?_) (by simp only [List.getElem?_toArray, List.getElem?_cons_succ, List.getElem?_cons_zero]; rfl) (by kernel_rfl) (by kernel_rfl) (by kernel_rfl) (by exact fun _ _ _ h => h) ?_ (by assumption) ?_
  rotate_left
  · refine Or.inl ⟨by rfl, ?_⟩
    (intro w hSw; (try dsimp only at hSw); go_simp; try with_reducible rfl)
  simp only [Act.put, List.setIfInBounds_toArray, List.set_cons_zero, List.set_cons_succ]
  refine wpAnyH_take (i := 2) (v := ?_) (by simp only [List.getElem?_toArray, List.getElem?_cons_succ, List.getElem?_cons_zero]; rfl) (by kernel_rfl) (by kernel_rfl) (by kernel_rfl) (by exact fun _ _ _ h => h) ?_ (by assumption) ?_
  rotate_left
  · refine Or.inl ⟨by rfl, ?_⟩
    (intro w hSw; (try dsimp only at hSw); go_simp; try with_reducible rfl)
  simp only [Act.put, List.setIfInBounds_toArray, List.set_cons_zero, List.set_cons_succ]
  refine wpAnyH_take (i := 4) (v := ?_) (by simp only [List.getElem?_toArray, List.getElem?_cons_succ, List.getElem?_cons_zero]; rfl) (by kernel_rfl) (by kernel_rfl) (by kernel_rfl) (by exact fun _ _ _ h => h) ?_ (by assumption) ?_
  rotate_left
  · refine Or.inl ⟨by rfl, ?_⟩
    (intro w hSw; (try dsimp only at hSw); go_simp; try with_reducible rfl)
  simp only [Act.put, List.setIfInBounds_toArray, List.set_cons_zero, List.set_cons_succ]
  refine wpAnyH_take (i := 6) (v := ?_) (by simp only [List.getElem?_toArray, List.getElem?_cons_succ, List.getElem?_cons_zero]; rfl) (by kernel_rfl) (by kernel_rfl) (by kernel_rfl) (by exact fun _ _ _ h => h) ?_ (by assumption) ?_
  rotate_left
  · refine Or.inl ⟨by rfl, ?_⟩
    (intro w hSw; (try dsimp only at hSw); go_simp; try with_reducible rfl)
  simp only [Act.put, List.setIfInBounds_toArray, List.set_cons_zero, List.set_cons_succ]
  refine wpAnyH_take (i := 8) (v := ?_) (by simp only [List.getElem?_toArray, List.getElem?_cons_succ, List.getElem?_cons_zero]; rfl) (by kernel_rfl) (by kernel_rfl) (by kernel_rfl) (by exact fun _ _ _ h => h) ?_ (by assumption) ?_
  rotate_left
  · refine Or.inl ⟨by rfl, ?_⟩
    (intro w hSw; (try dsimp only at hSw); go_simp; try with_reducible rfl)
  simp only [Act.put, List.setIfInBounds_toArray, List.set_cons_zero, List.set_cons_succ]
  refine wpAnyH_take (i := 11) (v := ?_) (by simp only [List.getElem?_toArray, List.getElem?_cons_succ, List.getElem?_cons_zero]; rfl) (by kernel_rfl) (by kernel_rfl) (by kernel_rfl) (by exact fun _ _ _ h => h) ?_ (by assumption) ?_
  rotate_left
  · refine Or.inl ⟨by rfl, ?_⟩
    (intro w hSw; (try dsimp only at hSw); go_simp; try with_reducible rfl)
  simp only [Act.put, List.setIfInBounds_toArray, List.set_cons_zero, List.set_cons_succ]
  refine wpAnyH_take (i := 13) (v := ?_) (by simp only [List.getElem?_toArray, List.getElem?_cons_succ, List.getElem?_cons_zero]; rfl) (by kernel_rfl) (by kernel_rfl) (by kernel_rfl) (by exact fun _ _ _ h => h) ?_ (by assumption) ?_
  rotate_left
  · refine Or.inl ⟨by rfl, ?_⟩
    (intro w hSw; (try dsimp only at hSw); go_simp; try with_reducible rfl)
  simp only [Act.put, List.setIfInBounds_toArray, List.set_cons_zero, List.set_cons_succ]
  refine wpAnyH_take (i := 15) (v := ?_) (by simp only [List.getElem?_toArray, List.getElem?_cons_succ, List.getElem?_cons_zero]; rfl) (by kernel_rfl) (by kernel_rfl) (by kernel_rfl) (by exact fun _ _ _ h => h) ?_ (by assumption) ?_
  rotate_left
  · refine Or.inl ⟨by rfl, ?_⟩
    (intro w hSw; (try dsimp only at hSw); go_simp; try with_reducible rfl)
  simp only [Act.put, List.setIfInBounds_toArray, List.set_cons_zero, List.set_cons_succ]
  refine wpAnyH_take (i := 16) (v := ?_) (by simp only [List.getElem?_toArray, List.getElem?_cons_succ, List.getElem?_cons_zero]; rfl) (by kernel_rfl) (by kernel_rfl) (by kernel_rfl) (by exact fun _ _ _ h => h) ?_ (by assumption) ?_
  rotate_left
  · refine Or.inl ⟨by rfl, ?_⟩
    (intro w hSw; (try dsimp only at hSw); go_simp; try with_reducible rfl)
  simp only [Act.put, List.setIfInBounds_toArray, List.set_cons_zero, List.set_cons_succ]
  refine wpAnyH_take (i := 18) (v := ?_) (by simp only [List.getElem?_toArray, List.getElem?_cons_succ, List.getElem?_cons_zero]; rfl) (by kernel_rfl) (by kernel_rfl) (by kernel_rfl) (by exact fun _ _ _ h => h) ?_ (by assumption) ?_
  rotate_left
  · refine Or.inl ⟨by rfl, ?_⟩
    (intro w hSw; (try dsimp only at hSw); go_simp; try with_reducible rfl)
  simp only [Act.put, List.setIfInBounds_toArray, List.set_cons_zero, List.set_cons_succ]
  refine wpAnyH_take (i := 19) (v := ?_) (by simp only [List.getElem?_toArray, List.getElem?_cons_succ, List.getElem?_cons_zero]; rfl) (by kernel_rfl) (by kernel_rfl) (by kernel_rfl) (by exact fun _ _ _ h => h) ?_ (by assumption) ?_
  rotate_left
  · refine Or.inl ⟨by rfl, ?_⟩
    (intro w hSw; (try dsimp only at hSw); go_simp; try with_reducible rfl)
  simp only [Act.put, List.setIfInBounds_toArray, List.set_cons_zero, List.set_cons_succ]
  refine wpAnyH_take (i := 20) (v := ?_) (by simp only [List.getElem?_toArray, List.getElem?_cons_succ, List.getElem?_cons_zero]; rfl) (by kernel_rfl) (by kernel_rfl) (by kernel_rfl) (by exact fun _ _ _ h => h) ?_ (by assumption) ?_
  rotate_left
  · refine Or.inl ⟨by rfl, ?_⟩
    (intro w hSw; (try dsimp only at hSw); go_simp; try with_reducible rfl)
  simp only [Act.put, List.setIfInBounds_toArray, List.set_cons_zero, List.set_cons_succ]
  refine wpAnyH_take (i := 22) (v := ?_) (by simp only [List.getElem?_toArray, List.getElem?_cons_succ, List.getElem?_cons_zero]; rfl) (by kernel_rfl) (by kernel_rfl) (by kernel_rfl) (by exact fun _ _ _ h => h) ?_ (by assumption) ?_
  rotate_left
  · refine Or.inl ⟨by rfl, ?_⟩
    (intro w hSw; (try dsimp only at hSw); go_simp; try with_reducible rfl)
  simp only [Act.put, List.setIfInBounds_toArray, List.set_cons_zero, List.set_cons_succ]
  refine wpAnyH_take (i := 25) (v := ?_) (by simp only [List.getElem?_toArray, List.getElem?_cons_succ, List.getElem?_cons_zero]; rfl) (by kernel_rfl) (by kernel_rfl) (by kernel_rfl) (by exact fun _ _ _ h => h) ?_ (by assumption) ?_
  rotate_left
  · refine Or.inl ⟨by rfl, ?_⟩
    (intro w hSw; (try dsimp only at hSw); go_simp; try with_reducible rfl)
  simp only [Act.put, List.setIfInBounds_toArray, List.set_cons_zero, List.set_cons_succ]
  refine wpAnyH_take (i := 26) (v := ?_) (by simp only [List.getElem?_toArray, List.getElem?_cons_succ, List.getElem?_cons_zero]; rfl) (by kernel_rfl) (by kernel_rfl) (by kernel_rfl) (by exact fun _ _ _ h => h) ?_ (by assumption) ?_
  rotate_left
  · refine Or.inl ⟨by rfl, ?_⟩
    (intro w hSw; (try dsimp only at hSw); go_simp; try with_reducible rfl)
  simp only [Act.put, List.setIfInBounds_toArray, List.set_cons_zero, List.set_cons_succ]
  refine wpAnyH_take (i := 29) (v := ?_) (by simp only [List.getElem?_toArray, List.getElem?_cons_succ, List.getElem?_cons_zero]; rfl) (by kernel_rfl) (by kernel_rfl) (by kernel_rfl) (by exact fun _ _ _ h => h) ?_ (by assumption) ?_
  rotate_left
  · refine Or.inl ⟨by rfl, ?_⟩
    (intro w hSw; (try dsimp only at hSw); go_simp; try with_reducible rfl)
  simp only [Act.put, List.setIfInBounds_toArray, List.set_cons_zero, List.set_cons_succ]
  refine wpAnyH_take (i := 30) (v := ?_) (by simp only [List.getElem?_toArray, List.getElem?_cons_succ, List.getElem?_cons_zero]; rfl) (by kernel_rfl) (by kernel_rfl) (by kernel_rfl) (by exact fun _ _ _ h => h) ?_ (by assumption) ?_
  rotate_left
  · refine Or.inl ⟨by rfl, ?_⟩
    (intro w hSw; (try dsimp only at hSw); go_simp; try with_reducible rfl)
  simp only [Act.put, List.setIfInBounds_toArray, List.set_cons_zero, List.set_cons_succ]
  refine wpAnyH_take (i := 33) (v := ?_) (by simp only [List.getElem?_toArray, List.getElem?_cons_succ, List.getElem?_cons_zero]; rfl) (by kernel_rfl) (by kernel_rfl) (by kernel_rfl) (by exact fun _ _ _ h => h) ?_ (by assumption) ?_
  rotate_left
  · refine Or.inl ⟨by rfl, ?_⟩
    (intro w hSw; (try dsimp only at hSw); go_simp; try with_reducible rfl)
  simp only [Act.put, List.setIfInBounds_toArray, List.set_cons_zero, List.set_cons_succ]
  refine wpAnyH_take (i := 34) (v := ?_) (by simp only [List.getElem?_toArray, List.getElem?_cons_succ, List.getElem?_cons_zero]; rfl) (by kernel_rfl) (by kernel_rfl) (by kernel_rfl) (by exact fun _ _ _ h => h) ?_ (by assumption) ?_
  rotate_left
  · refine Or.inl ⟨by rfl, ?_⟩
    (intro w hSw; (try dsimp only at hSw); go_simp; try with_reducible rfl)
  simp only [Act.put, List.setIfInBounds_toArray, List.set_cons_zero, List.set_cons_succ]
  refine wpAnyH_take (i := 37) (v := ?_) (by simp only [List.getElem?_toArray, List.getElem?_cons_succ, List.getElem?_cons_zero]; rfl) (by kernel_rfl) (by kernel_rfl) (by kernel_rfl) (by exact fun _ _ _ h => h) ?_ (by assumption) ?_
  rotate_left
  · refine Or.inl ⟨by rfl, ?_⟩
    (intro w hSw; (try dsimp only at hSw); go_simp; try with_reducible rfl)
  simp only [Act.put, List.setIfInBounds_toArray, List.set_cons_zero, List.set_cons_succ]
  refine wpAnyH_take (i := 38) (v := ?_) (by simp only [List.getElem?_toArray, List.getElem?_cons_succ, List.getElem?_cons_zero]; rfl) (by kernel_rfl) (by kernel_rfl) (by kernel_rfl) (by exact fun _ _ _ h => h) ?_ (by assumption) ?_
  rotate_left
  · refine Or.inl ⟨by rfl, ?_⟩
    (intro w hSw; (try dsimp only at hSw); go_simp; try with_reducible rfl)
  simp only [Act.put, List.setIfInBounds_toArray, List.set_cons_zero, List.set_cons_succ]
  refine wpAnyH_ready (rs := [3]) (by kernel_rfl) (by simp) ?_
  refine AllReadyH.cons (by simp only [List.getElem?_toArray, List.getElem?_cons_succ, List.getElem?_cons_zero]; rfl) (fun K hK => ?_) AllReadyH.nil
  go_simp
  (first | (go_at_call 45; (with_reducible refine (HB3.out _).mono ?_); rintro e w1 ⟨rfl, b1⟩) | (go_at_call 46; (with_reducible refine (HB4.out _).mono ?_); rintro e w1 ⟨rfl, b1⟩) | (go_at_call 47; (with_reducible refine (HB5.out _).mono ?_); rintro e w1 ⟨rfl, b1⟩) | (go_at_call 48; (with_reducible refine (HB6.out _).mono ?_); rintro e w1 ⟨rfl, b1⟩) | (go_at_call 26; (with_reducible refine (HB7.out _).mono ?_); rintro e w1 ⟨rfl, b1⟩) | (go_at_call 49; (with_reducible refine (HB8.out _).mono ?_); rintro e w1 ⟨rfl, b1⟩) | (go_at_call 49; (with_reducible refine (HB9.out _).mono ?_); rintro e w1 ⟨rfl, b1⟩) | (go_at_call 50; (with_reducible refine (HB10.out _).mono ?_); rintro e w1 ⟨rfl, b1⟩) | (go_at_call 50; (with_reducible refine (HB11.out _).mono ?_); rintro e w1 ⟨rfl, b1⟩))
  try go_wp2_with fail
  refine hK.out _ _ ?_ (fun hHeld => ?_)
  · (try dsimp only); first | done | (first | (go_split_ands; exact keepR b1 (by assumption) (by assumption) (by assumption)) | exact ⟨d0, d1, hR2.drew⟩ | go_keep)
  clear hK K
  try simp only [Act.put, List.setIfInBounds_toArray, List.set_cons_zero, List.set_cons_succ]
  refine wpAnyH_ready (rs := [5]) (by kernel_rfl) (by simp) ?_
  refine AllReadyH.cons (by simp only [List.getElem?_toArray, List.getElem?_cons_succ, List.getElem?_cons_zero]; rfl) (fun K hK => ?_) AllReadyH.nil
  go_simp
  (first | (go_at_call 45; (with_reducible refine (HB3.out _).mono ?_); rintro e w1 ⟨rfl, b1⟩) | (go_at_call 46; (with_reducible refine (HB4.out _).mono ?_); rintro e w1 ⟨rfl, b1⟩) | (go_at_call 47; (with_reducible refine (HB5.out _).mono ?_); rintro e w1 ⟨rfl, b1⟩) | (go_at_call 48; (with_reducible refine (HB6.out _).mono ?_); rintro e w1 ⟨rfl, b1⟩) | (go_at_call 26; (with_reducible refine (HB7.out _).mono ?_); rintro e w1 ⟨rfl, b1⟩) | (go_at_call 49; (with_reducible refine (HB8.out _).mono ?_); rintro e w1 ⟨rfl, b1⟩) | (go_at_call 49; (with_reducible refine (HB9.out _).mono ?_); rintro e w1 ⟨rfl, b1⟩) | (go_at_call 50; (with_reducible refine (HB10.out _).mono ?_); rintro e w1 ⟨rfl, b1⟩) | (go_at_call 50; (with_reducible refine (HB11.out _).mono ?_); rintro e w1 ⟨rfl, b1⟩))
  try go_wp2_with fail
  refine hK.out _ _ ?_ (fun hHeld => ?_)
  · (try dsimp only); first | done | (first | (go_split_ands; exact keepR b1 (by assumption) (by assumption) (by assumption)) | exact ⟨d0, d1, hR2.drew⟩ | go_keep)
  clear hK K
  try simp only [Act.put, List.setIfInBounds_toArray, List.set_cons_zero, List.set_cons_succ]
  refine wpAnyH_ready (rs := [7]) (by kernel_rfl) (by simp) ?_
  refine AllReadyH.cons (by simp only [List.getElem?_toArray, List.getElem?_cons_succ, List.getElem?_cons_zero]; rfl) (fun K hK => ?_) AllReadyH.nil
  go_simp
  (first | (go_at_call 45; (with_reducible refine (HB3.out _).mono ?_); rintro e w1 ⟨rfl, b1⟩) | (go_at_call 46; (with_reducible refine (HB4.out _).mono ?_); rintro e w1 ⟨rfl, b1⟩) | (go_at_call 47; (with_reducible refine (HB5.out _).mono ?_); rintro e w1 ⟨rfl, b1⟩) | (go_at_call 48; (with_reducible refine (HB6.out _).mono ?_); rintro e w1 ⟨rfl, b1⟩) | (go_at_call 26; (with_reducible refine (HB7.out _).mono ?_); rintro e w1 ⟨rfl, b1⟩) | (go_at_call 49; (with_reducible refine (HB8.out _).mono ?_); rintro e w1 ⟨rfl, b1⟩) | (go_at_call 49; (with_reducible refine (HB9.out _).mono ?_); rintro e w1 ⟨rfl, b1⟩) | (go_at_call 50; (with_reducible refine (HB10.out _).mono ?_); rintro e w1 ⟨rfl, b1⟩) | (go_at_call 50; (with_reducible refine (HB11.out _).mono ?_); rintro e w1 ⟨rfl, b1⟩))
  try go_wp2_with fail
  refine hK.out _ _ ?_ (fun hHeld => ?_)
  · (try dsimp only); first | done | (first | (go_split_ands; exact keepR b1 (by assumption) (by assumption) (by assumption)) | exact ⟨d0, d1, hR2.drew⟩ | go_keep)
  clear hK K
  try simp only [Act.put, List.setIfInBounds_toArray, List.set_cons_zero, List.set_cons_succ]
  refine wpAnyH_ready (rs := [9]) (by kernel_rfl) (by simp) ?_
  refine AllReadyH.cons (by simp only [List.getElem?_toArray, List.getElem?_cons_succ, List.getElem?_cons_zero]; rfl) (fun K hK => ?_) AllReadyH.nil
  go_simp
  (first | (go_at_call 45; (with_reducible refine (HB3.out _).mono ?_); rintro e w1 ⟨rfl, b1⟩) | (go_at_call 46; (with_reducible refine (HB4.out _).mono ?_); rintro e w1 ⟨rfl, b1⟩) | (go_at_call 47; (with_reducible refine (HB5.out _).mono ?_); rintro e w1 ⟨rfl, b1⟩) | (go_at_call 48; (with_reducible refine (HB6.out _).mono ?_); rintro e w1 ⟨rfl, b1⟩) | (go_at_call 26; (with_reducible refine (HB7.out _).mono ?_); rintro e w1 ⟨rfl, b1⟩) | (go_at_call 49; (with_reducible refine (HB8.out _).mono ?_); rintro e w1 ⟨rfl, b1⟩) | (go_at_call 49; (with_reducible refine (HB9.out _).mono ?_); rintro e w1 ⟨rfl, b1⟩) | (go_at_call 50; (with_reducible refine (HB10.out _).mono ?_); rintro e w1 ⟨rfl, b1⟩) | (go_at_call 50; (with_reducible refine (HB11.out _).mono ?_); rintro e w1 ⟨rfl, b1⟩))
  try go_wp2_with fail
  refine hK.out _ _ ?_ (fun hHeld => ?_)
  · (try dsimp only); first | done | (first | (go_split_ands; exact keepR b1 (by assumption) (by assumption) (by assumption)) | exact ⟨d0, d1, hR2.drew⟩ | go_keep)
  clear hK K
  try simp only [Act.put, List.setIfInBounds_toArray, List.set_cons_zero, List.set_cons_succ]
  refine wpAnyH_take (i := 10) (v := ?_) (by simp only [List.getElem?_toArray, List.getElem?_cons_succ, List.getElem?_cons_zero]; rfl) (by kernel_rfl) (by kernel_rfl) (by kernel_rfl) (by exact fun _ _ _ h => h) ?_ (by assumption) ?_
  rotate_left
  · refine Or.inl ⟨by rfl, ?_⟩
    (intro w hSw; (try dsimp only at hSw); go_simp; try with_reducible rfl)
  simp only [Act.put, List.setIfInBounds_toArray, List.set_cons_zero, List.set_cons_succ]
  refine wpAnyH_ready (rs := [12]) (by kernel_rfl) (by simp) ?_
  refine AllReadyH.cons (by simp only [List.getElem?_toArray, List.getElem?_cons_succ, List.getElem?_cons_zero]; rfl) (fun K hK => ?_) AllReadyH.nil
  go_simp
  (first | (go_at_call 45; (with_reducible refine (HB3.out _).mono ?_); rintro e w1 ⟨rfl, b1⟩) | (go_at_call 46; (with_reducible refine (HB4.out _).mono ?_); rintro e w1 ⟨rfl, b1⟩) | (go_at_call 47; (with_reducible refine (HB5.out _).mono ?_); rintro e w1 ⟨rfl, b1⟩) | (go_at_call 48; (with_reducible refine (HB6.out _).mono ?_); rintro e w1 ⟨rfl, b1⟩) | (go_at_call 26; (with_reducible refine (HB7.out _).mono ?_); rintro e w1 ⟨rfl, b1⟩) | (go_at_call 49; (with_reducible refine (HB8.out _).mono ?_); rintro e w1 ⟨rfl, b1⟩) | (go_at_call 49; (with_reducible refine (HB9.out _).mono ?_); rintro e w1 ⟨rfl, b1⟩) | (go_at_call 50; (with_reducible refine (HB10.out _).mono ?_); rintro e w1 ⟨rfl, b1⟩) | (go_at_call 50; (with_reducible refine (HB11.out _).mono ?_); rintro e w1 ⟨rfl, b1⟩))
  try go_wp2_with fail
  refine hK.out _ _ ?_ (fun hHeld => ?_)
  · (try dsimp only); first | done | (first | (go_split_ands; exact keepR b1 (by assumption) (by assumption) (by assumption)) | exact ⟨d0, d1, hR2.drew⟩ | go_keep)
  clear hK K
  try simp only [Act.put, List.setIfInBounds_toArray, List.set_cons_zero, List.set_cons_succ]
  refine wpAnyH_ready (rs := [14]) (by kernel_rfl) (by simp) ?_
  refine AllReadyH.cons (by simp only [List.getElem?_toArray, List.getElem?_cons_succ, List.getElem?_cons_zero]; rfl) (fun K hK => ?_) AllReadyH.nil
  go_simp
  (first | (go_at_call 45; (with_reducible refine (HB3.out _).mono ?_); rintro e w1 ⟨rfl, b1⟩) | (go_at_call 46; (with_reducible refine (HB4.out _).mono ?_); rintro e w1 ⟨rfl, b1⟩) | (go_at_call 47; (with_reducible refine (HB5.out _).mono ?_); rintro e w1 ⟨rfl, b1⟩) | (go_at_call 48; (with_reducible refine (HB6.out _).mono ?_); rintro e w1 ⟨rfl, b1⟩) | (go_at_call 26; (with_reducible refine (HB7.out _).mono ?_); rintro e w1 ⟨rfl, b1⟩) | (go_at_call 49; (with_reducible refine (HB8.out _).mono ?_); rintro e w1 ⟨rfl, b1⟩) | (go_at_call 49; (with_reducible refine (HB9.out _).mono ?_); rintro e w1 ⟨rfl, b1⟩) | (go_at_call 50; (with_reducible refine (HB10.out _).mono ?_); rintro e w1 ⟨rfl, b1⟩) | (go_at_call 50; (with_reducible refine (HB11.out _).mono ?_); rintro e w1 ⟨rfl, b1⟩))
  try go_wp2_with fail
  refine hK.out _ _ ?_ (fun hHeld => ?_)
  · (try dsimp only); first | done | (first | (go_split_ands; exact keepR b1 (by assumption) (by assumption) (by assumption)) | exact ⟨d0, d1, hR2.drew⟩ | go_keep)
  clear hK K
  try simp only [Act.put, List.setIfInBounds_toArray, List.set_cons_zero, List.set_cons_succ]
  refine wpAnyH_ready (rs := [17]) (by kernel_rfl) (by simp) ?_
  refine AllReadyH.cons (by simp only [List.getElem?_toArray, List.getElem?_cons_succ, List.getElem?_cons_zero]; rfl) (fun K hK => ?_) AllReadyH.nil
  go_simp
  (first | (go_at_call 45; (with_reducible refine (HB3.out _).mono ?_); rintro e w1 ⟨rfl, b1⟩) | (go_at_call 46; (with_reducible refine (HB4.out _).mono ?_); rintro e w1 ⟨rfl, b1⟩) | (go_at_call 47; (with_reducible refine (HB5.out _).mono ?_); rintro e w1 ⟨rfl, b1⟩) | (go_at_call 48; (with_reducible refine (HB6.out _).mono ?_); rintro e w1 ⟨rfl, b1⟩) | (go_at_call 26; (with_reducible refine (HB7.out _).mono ?_); rintro e w1 ⟨rfl, b1⟩) | (go_at_call 49; (with_reducible refine (HB8.out _).mono ?_); rintro e w1 ⟨rfl, b1⟩) | (go_at_call 49; (with_reducible refine (HB9.out _).mono ?_); rintro e w1 ⟨rfl, b1⟩) | (go_at_call 50; (with_reducible refine (HB10.out _).mono ?_); rintro e w1 ⟨rfl, b1⟩) | (go_at_call 50; (with_reducible refine (HB11.out _).mono ?_); rintro e w1 ⟨rfl, b1⟩))
  try go_wp2_with fail
  refine hK.out _ _ ?_ (fun hHeld => ?_)
  · (try dsimp only); first | done | (first | (go_split_ands; exact keepR b1 (by assumption) (by assumption) (by assumption)) | exact ⟨d0, d1, hR2.drew⟩ | go_keep)
  clear hK K
  try simp only [Act.put, List.setIfInBounds_toArray, List.set_cons_zero, List.set_cons_succ]
  refine wpAnyH_take (i := 21) (v := ?_) (by simp only [List.getElem?_toArray, List.getElem?_cons_succ, List.getElem?_cons_zero]; rfl) (by kernel_rfl) (by kernel_rfl) (by kernel_rfl) (by exact fun _ _ _ h => h) ?_ (by assumption) ?_
  rotate_left
  · refine Or.inl ⟨by rfl, ?_⟩
    (intro w hSw; (try dsimp only at hSw); go_simp; try with_reducible rfl)
  simp only [Act.put, List.setIfInBounds_toArray, List.set_cons_zero, List.set_cons_succ]
  refine wpAnyH_ready (rs := [23]) (by kernel_rfl) (by simp) ?_
  refine AllReadyH.cons (by simp only [List.getElem?_toArray, List.getElem?_cons_succ, List.getElem?_cons_zero]; rfl) (fun K hK => ?_) AllReadyH.nil
  go_simp
  (first | (go_at_call 45; (with_reducible refine (HB3.out _).mono ?_); rintro e w1 ⟨rfl, b1⟩) | (go_at_call 46; (with_reducible refine (HB4.out _).mono ?_); rintro e w1 ⟨rfl, b1⟩) | (go_at_call 47; (with_reducible refine (HB5.out _).mono ?_); rintro e w1 ⟨rfl, b1⟩) | (go_at_call 48; (with_reducible refine (HB6.out _).mono ?_); rintro e w1 ⟨rfl, b1⟩) | (go_at_call 26; (with_reducible refine (HB7.out _).mono ?_); rintro e w1 ⟨rfl, b1⟩) | (go_at_call 49; (with_reducible refine (HB8.out _).mono ?_); rintro e w1 ⟨rfl, b1⟩) | (go_at_call 49; (with_reducible refine (HB9.out _).mono ?_); rintro e w1 ⟨rfl, b1⟩) | (go_at_call 50; (with_reducible refine (HB10.out _).mono ?_); rintro e w1 ⟨rfl, b1⟩) | (go_at_call 50; (with_reducible refine (HB11.out _).mono ?_); rintro e w1 ⟨rfl, b1⟩))
  try go_wp2_with fail
  refine hK.out _ _ ?_ (fun hHeld => ?_)
  · (try dsimp only); first | done | (first | (go_split_ands; exact keepR b1 (by assumption) (by assumption) (by assumption)) | exact ⟨d0, d1, hR2.drew⟩ | go_keep)
  clear hK K
  try simp only [Act.put, List.setIfInBounds_toArray, List.set_cons_zero, List.set_cons_succ]
  refine wpAnyH_ready (rs := [24]) (by kernel_rfl) (by simp) ?_
  refine AllReadyH.cons (by simp only [List.getElem?_toArray, List.getElem?_cons_succ, List.getElem?_cons_zero]; rfl) (fun K hK => ?_) AllReadyH.nil
  go_simp
  (first | (go_at_call 45; (with_reducible refine (HB3.out _).mono ?_); rintro e w1 ⟨rfl, b1⟩) | (go_at_call 46; (with_reducible refine (HB4.out _).mono ?_); rintro e w1 ⟨rfl, b1⟩) | (go_at_call 47; (with_reducible refine (HB5.out _).mono ?_); rintro e w1 ⟨rfl, b1⟩) | (go_at_call 48; (with_reducible refine (HB6.out _).mono ?_); rintro e w1 ⟨rfl, b1⟩) | (go_at_call 26; (with_reducible refine (HB7.out _).mono ?_); rintro e w1 ⟨rfl, b1⟩) | (go_at_call 49; (with_reducible refine (HB8.out _).mono ?_); rintro e w1 ⟨rfl, b1⟩) | (go_at_call 49; (with_reducible refine (HB9.out _).mono ?_); rintro e w1 ⟨rfl, b1⟩) | (go_at_call 50; (with_reducible refine (HB10.out _).mono ?_); rintro e w1 ⟨rfl, b1⟩) | (go_at_call 50; (with_reducible refine (HB11.out _).mono ?_); rintro e w1 ⟨rfl, b1⟩))
  try go_wp2_with fail
  refine hK.out _ _ ?_ (fun hHeld => ?_)
  · (try dsimp only); first | done | (first | (go_split_ands; exact keepR b1 (by assumption) (by assumption) (by assumption)) | exact ⟨d0, d1, hR2.drew⟩ | go_keep)
  clear hK K
  try simp only [Act.put, List.setIfInBounds_toArray, List.set_cons_zero, List.set_cons_succ]
  refine wpAnyH_ready (rs := [27]) (by kernel_rfl) (by simp) ?_
  refine AllReadyH.cons (by simp only [List.getElem?_toArray, List.getElem?_cons_succ, List.getElem?_cons_zero]; rfl) (fun K hK => ?_) AllReadyH.nil
  go_simp
  (first | (go_at_call 45; (with_reducible refine (HB3.out _).mono ?_); rintro e w1 ⟨rfl, b1⟩) | (go_at_call 46; (with_reducible refine (HB4.out _).mono ?_); rintro e w1 ⟨rfl, b1⟩) | (go_at_call 47; (with_reducible refine (HB5.out _).mono ?_); rintro e w1 ⟨rfl, b1⟩) | (go_at_call 48; (with_reducible refine (HB6.out _).mono ?_); rintro e w1 ⟨rfl, b1⟩) | (go_at_call 26; (with_reducible refine (HB7.out _).mono ?_); rintro e w1 ⟨rfl, b1⟩) | (go_at_call 49; (with_reducible refine (HB8.out _).mono ?_); rintro e w1 ⟨rfl, b1⟩) | (go_at_call 49; (with_reducible refine (HB9.out _).mono ?_); rintro e w1 ⟨rfl, b1⟩) | (go_at_call 50; (with_reducible refine (HB10.out _).mono ?_); rintro e w1 ⟨rfl, b1⟩) | (go_at_call 50; (with_reducible refine (HB11.out _).mono ?_); rintro e w1 ⟨rfl, b1⟩))
  try go_wp2_with fail
  refine hK.out _ _ ?_ (fun hHeld => ?_)
  · (try dsimp only); first | done | (first | (go_split_ands; exact keepR b1 (by assumption) (by assumption) (by assumption)) | exact ⟨d0, d1, hR2.drew⟩ | go_keep)
  clear hK K
  try simp only [Act.put, List.setIfInBounds_toArray, List.set_cons_zero, List.set_cons_succ]
  refine wpAnyH_take (i := 28) (v := ?_) (by simp only [List.getElem?_toArray, List.getElem?_cons_succ, List.getElem?_cons_zero]; rfl) (by kernel_rfl) (by kernel_rfl) (by kernel_rfl) (by exact fun _ _ _ h => h) ?_ (by assumption) ?_
  rotate_left
  · refine Or.inl ⟨by rfl, ?_⟩
    (intro w hSw; (try dsimp only at hSw); go_simp; try with_reducible rfl)
  simp only [Act.put, List.setIfInBounds_toArray, List.set_cons_zero, List.set_cons_succ]
  refine wpAnyH_ready (rs := [31]) (by kernel_rfl) (by simp) ?_
  refine AllReadyH.cons (by simp only [List.getElem?_toArray, List.getElem?_cons_succ, List.getElem?_cons_zero]; rfl) (fun K hK => ?_) AllReadyH.nil
  go_simp
  (first | (go_at_call 45; (with_reducible refine (HB3.out _).mono ?_); rintro e w1 ⟨rfl, b1⟩) | (go_at_call 46; (with_reducible refine (HB4.out _).mono ?_); rintro e w1 ⟨rfl, b1⟩) | (go_at_call 47; (with_reducible refine (HB5.out _).mono ?_); rintro e w1 ⟨rfl, b1⟩) | (go_at_call 48; (with_reducible refine (HB6.out _).mono ?_); rintro e w1 ⟨rfl, b1⟩) | (go_at_call 26; (with_reducible refine (HB7.out _).mono ?_); rintro e w1 ⟨rfl, b1⟩) | (go_at_call 49; (with_reducible refine (HB8.out _).mono ?_); rintro e w1 ⟨rfl, b1⟩) | (go_at_call 49; (with_reducible refine (HB9.out _).mono ?_); rintro e w1 ⟨rfl, b1⟩) | (go_at_call 50; (with_reducible refine (HB10.out _).mono ?_); rintro e w1 ⟨rfl, b1⟩) | (go_at_call 50; (with_reducible refine (HB11.out _).mono ?_); rintro e w1 ⟨rfl, b1⟩))
  try go_wp2_with fail
  refine hK.out _ _ ?_ (fun hHeld => ?_)
  · (try dsimp only); first | done | (first | (go_split_ands; exact keepR b1 (by assumption) (by assumption) (by assumption)) | exact ⟨d0, d1, hR2.drew⟩ | go_keep)
  clear hK K
  try simp only [Act.put, List.setIfInBounds_toArray, List.set_cons_zero, List.set_cons_succ]
  refine wpAnyH_take (i := 32) (v := ?_) (by simp only [List.getElem?_toArray, List.getElem?_cons_succ, List.getElem?_cons_zero]; rfl) (by kernel_rfl) (by kernel_rfl) (by kernel_rfl) (by exact fun _ _ _ h => h) ?_ (by assumption) ?_
  rotate_left
  · refine Or.inl ⟨by rfl, ?_⟩
    (intro w hSw; (try dsimp only at hSw); go_simp; try with_reducible rfl)
  simp only [Act.put, List.setIfInBounds_toArray, List.set_cons_zero, List.set_cons_succ]
  refine wpAnyH_ready (rs := [35]) (by kernel_rfl) (by simp) ?_
  refine AllReadyH.cons (by simp only [List.getElem?_toArray, List.getElem?_cons_succ, List.getElem?_cons_zero]; rfl) (fun K hK => ?_) AllReadyH.nil
  go_simp
  (first | (go_at_call 45; (with_reducible refine (HB3.out _).mono ?_); rintro e w1 ⟨rfl, b1⟩) | (go_at_call 46; (with_reducible refine (HB4.out _).mono ?_); rintro e w1 ⟨rfl, b1⟩) | (go_at_call 47; (with_reducible refine (HB5.out _).mono ?_); rintro e w1 ⟨rfl, b1⟩) | (go_at_call 48; (with_reducible refine (HB6.out _).mono ?_); rintro e w1 ⟨rfl, b1⟩) | (go_at_call 26; (with_reducible refine (HB7.out _).mono ?_); rintro e w1 ⟨rfl, b1⟩) | (go_at_call 49; (with_reducible refine (HB8.out _).mono ?_); rintro e w1 ⟨rfl, b1⟩) | (go_at_call 49; (with_reducible refine (HB9.out _).mono ?_); rintro e w1 ⟨rfl, b1⟩) | (go_at_call 50; (with_reducible refine (HB10.out _).mono ?_); rintro e w1 ⟨rfl, b1⟩) | (go_at_call 50; (with_reducible refine (HB11.out _).mono ?_); rintro e w1 ⟨rfl, b1⟩))
  try go_wp2_with fail
  refine hK.out _ _ ?_ (fun hHeld => ?_)
  · (try dsimp only); first | done | (first | (go_split_ands; exact keepR b1 (by assumption) (by assumption) (by assumption)) | exact ⟨d0, d1, hR2.drew⟩ | go_keep)
  clear hK K
  try simp only [Act.put, List.setIfInBounds_toArray, List.set_cons_zero, List.set_cons_succ]
  refine wpAnyH_take (i := 36) (v := ?_) (by simp only [List.getElem?_toArray, List.getElem?_cons_succ, List.getElem?_cons_zero]; rfl) (by kernel_rfl) (by kernel_rfl) (by kernel_rfl) (by exact fun _ _ _ h => h) ?_ (by assumption) ?_
  rotate_left
  · refine Or.inl ⟨by rfl, ?_⟩
    (intro w hSw; (try dsimp only at hSw); go_simp; try with_reducible rfl)
  simp only [Act.put, List.setIfInBounds_toArray, List.set_cons_zero, List.set_cons_succ]
  refine wpAnyH_ready (rs := [39]) (by kernel_rfl) (by simp) ?_
  refine AllReadyH.cons (by simp only [List.getElem?_toArray, List.getElem?_cons_succ, List.getElem?_cons_zero]; rfl) (fun K hK => ?_) AllReadyH.nil
  go_simp
  (first | (go_at_call 45; (with_reducible refine (HB3.out _).mono ?_); rintro e w1 ⟨rfl, b1⟩) | (go_at_call 46; (with_reducible refine (HB4.out _).mono ?_); rintro e w1 ⟨rfl, b1⟩) | (go_at_call 47; (with_reducible refine (HB5.out _).mono ?_); rintro e w1 ⟨rfl, b1⟩) | (go_at_call 48; (with_reducible refine (HB6.out _).mono ?_); rintro e w1 ⟨rfl, b1⟩) | (go_at_call 26; (with_reducible refine (HB7.out _).mono ?_); rintro e w1 ⟨rfl, b1⟩) | (go_at_call 49; (with_reducible refine (HB8.out _).mono ?_); rintro e w1 ⟨rfl, b1⟩) | (go_at_call 49; (with_reducible refine (HB9.out _).mono ?_); rintro e w1 ⟨rfl, b1⟩) | (go_at_call 50; (with_reducible refine (HB10.out _).mono ?_); rintro e w1 ⟨rfl, b1⟩) | (go_at_call 50; (with_reducible refine (HB11.out _).mono ?_); rintro e w1 ⟨rfl, b1⟩))
  try go_wp2_with fail
  refine hK.out _ _ ?_ (fun hHeld => ?_)
  · (try dsimp only); first | done | (first | (go_split_ands; exact keepR b1 (by assumption) (by assumption) (by assumption)) | exact ⟨d0, d1, hR2.drew⟩ | go_keep)
  clear hK K
  try simp only [Act.put, List.setIfInBounds_toArray, List.set_cons_zero, List.set_cons_succ]
  refine wpAnyH_take (i := 40) (v := ?_) (by simp only [List.getElem?_toArray, List.getElem?_cons_succ, List.getElem?_cons_zero]; rfl) (by kernel_rfl) (by kernel_rfl) (by kernel_rfl) (by exact fun _ _ _ h => h) ?_ (by assumption) ?_
  rotate_left
  · refine Or.inl ⟨by rfl, ?_⟩
    (intro w hSw; (try dsimp only at hSw); go_simp; try with_reducible rfl)
  simp only [Act.put, List.setIfInBounds_toArray, List.set_cons_zero, List.set_cons_succ]
  refine wpAnyH_take (i := 41) (v := ?_) (by simp only [List.getElem?_toArray, List.getElem?_cons_succ, List.getElem?_cons_zero]; rfl) (by kernel_rfl) (by kernel_rfl) (by kernel_rfl) (by exact fun _ _ _ h => h) ?_ (by assumption) ?_
  rotate_left
  · refine Or.inl ⟨by rfl, ?_⟩
    (intro w hSw; (try dsimp only at hSw); go_simp; try with_reducible rfl)
  simp only [Act.put, List.setIfInBounds_toArray, List.set_cons_zero, List.set_cons_succ]
  refine wpAnyH_ready (rs := [42]) (by kernel_rfl) (by simp) ?_
  refine AllReadyH.cons (by simp only [List.getElem?_toArray, List.getElem?_cons_succ, List.getElem?_cons_zero]; rfl) (fun K hK => ?_) AllReadyH.nil
  obtain ⟨q0, q1, hRm⟩ := hHeld
  obtain ⟨v0, e0⟩ := hRm.2.2.2.1 0 (by omega)
  obtain ⟨v1, e1⟩ := hRm.2.2.2.1 1 (by omega)
  obtain ⟨v2, e2⟩ := hRm.2.2.2.1 2 (by omega)
  obtain ⟨v3, e3⟩ := hRm.2.2.2.1 3 (by omega)
  obtain ⟨v4, e4⟩ := hRm.2.2.2.1 4 (by omega)
  obtain ⟨v5, e5⟩ := hRm.2.2.2.1 5 (by omega)
  obtain ⟨v6, e6⟩ := hRm.2.2.2.1 6 (by omega)
  obtain ⟨v7, e7⟩ := hRm.2.2.2.1 7 (by omega)
  obtain ⟨v8, e8⟩ := hRm.2.2.2.1 8 (by omega)
  obtain ⟨v9, e9⟩ := hRm.2.2.2.1 9 (by omega)
  obtain ⟨v10, e10⟩ := hRm.2.2.2.1 10 (by omega)
  obtain ⟨v11, e11⟩ := hRm.2.2.2.1 11 (by omega)
  obtain ⟨v12, e12⟩ := hRm.2.2.2.1 12 (by omega)
  obtain ⟨v13, e13⟩ := hRm.2.2.2.1 13 (by omega)
  have f0 := hRm.2.2.2.2.1 0
  have f1 := hRm.2.2.2.2.1 1
  have f2 := hRm.2.2.2.2.1 2
  have f3 := hRm.2.2.2.2.1 3
  have f4 := hRm.2.2.2.2.1 4
  have f5 := hRm.2.2.2.2.1 5
  have f6 := hRm.2.2.2.2.1 6
  have f7 := hRm.2.2.2.2.1 7
  have f8 := hRm.2.2.2.2.1 8
  have f9 := hRm.2.2.2.2.1 9
  have f10 := hRm.2.2.2.2.1 10
  have f11 := hRm.2.2.2.2.1 11
  have f12 := hRm.2.2.2.2.1 12
  have f13 := hRm.2.2.2.2.1 13
  have HRm := Go.Lib.hid hRm
  have far0 : ∀ (W : World) (i j : Nat) (v : Value), (W.setCell ⟨w.heap.size + 1, j, none⟩ v).cell? ⟨w.heap.size, i, none⟩ = W.cell? ⟨w.heap.size, i, none⟩ := fun W i j v => World.cell?_setCell_other _ _ _ _ (by simp)
  have Far0 := Go.Lib.hid far0
  clear far0
  have hNlt := hRm.1
  clear hRm
  go_simp
  refine hK.out _ _ ?_ (fun hHeld => ?_)
  · (try dsimp only)
    refine ⟨?_, ?_, ?_⟩
    · have far0 := Far0.out
      simp only [far0]; exact q0
    · have far0 := Far0.out
      simp only [far0]; exact q1
    exact (((((((((((((HRm.out.set 0 _).set 1 _).set 2 _).set 3 _).set 4 _).set 5 _).set 6 _).set 7 _).set 8 _).set 9 _).set 10 _).set 11 _).set 12 _).set 13 _
  clear hK K
  refine wpAnyH_done (by kernel_rfl) ?_ _
  go_wp2_with fail
  have hHeld2 := hHeld.2.2.2.1
  obtain ⟨hx, hy, hn3, hn4, hn5, hn6⟩ := HV.out
  refine bodyPost_ret (v := .agg #[.string x, .string y, .string lb, .string la, .string (lb ++ la), .int .i64 ((L2 : Int) - 1), .int .i64 ((lb.size : Nat) : Int), .slice (some ⟨g, 0, none⟩) L cap, .bool (((L2 : Int) - 1) == ((L : Int) - 1)), .int .i64 ((la.size : Nat) : Int), .string (x.extract n3 x.size), .string (y.extract 0 n5), .string (x.extract n4 x.size), .string (y.extract 0 n6)]) ?_ rfl ?_
  · clear hx hy hn3 hn4 hn5 hn6 hHeld hHeld2
    simp [results, Try.results18, go_sem, e0, e1, e2, e3, e4, e5, e6, e7, e8, e9, e10, e11, e12, e13]
  · refine ⟨lb, la, lb ++ la, (L2 : Int) - 1, ((lb.size : Nat) : Int), ((la.size : Nat) : Int), g, L, cap, (((L2 : Int) - 1) == ((L : Int) - 1)), ?_, hHeld2⟩
    rw [HXS.out, hn3, hn4, hn5, hn6, hx, hy]
end Go.Proofs.Ytedjjimabchffaa
