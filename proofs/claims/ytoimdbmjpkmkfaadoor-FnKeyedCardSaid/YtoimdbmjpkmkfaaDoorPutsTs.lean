/- spec.Editor.transpose, and Do at it. -/
import Derived.Test.YtoimdbmjpkmkfaaDoorPutsEd
namespace Go.Proofs.YtoimdbmjpkmkfaaDoor
open Go.RowKit
set_option linter.unusedVariables false
set_option linter.unusedSimpArgs false

theorem Rw.put0 {w : World} {eb g : Nat} {l : List Int} (h : Rw w eb (some ⟨g, 0, none⟩) l) (j : Nat) (hj : j < l.length) (v : Int) : Rw (w.setCell ⟨g, j, none⟩ (.int .i32 v)) eb (some ⟨g, 0, none⟩) (l.set j v) := by
  rcases h with rfl | ⟨b, off, e, hl, hn, hc⟩
  · simp at hj
  · cases e
    refine .inr ⟨g, 0, rfl, by simpa [World.setCell] using hl, ⟨hn.1, i32_set hn.2⟩, fun i hi => ?_⟩
    rw [List.length_set] at hi
    rw [Nat.zero_add]
    by_cases e : i = j
    · subst e
      rw [World.cell?_setCell_same' _ _ _ (by have := hc i hi; rw [Nat.zero_add] at this; rw [this]; rfl)]
      simp [nth, hi]
    · rw [World.cell?_setCell_other _ _ _ _ (by simp [e, Ne.symm e])]
      have := hc i hi
      rw [Nat.zero_add] at this
      rw [this]
      simp [nth, List.getElem?_set, Ne.symm e]
theorem Rw.off {w w0 : World} {eb g : Nat} {B : Option Addr} {l : List Int} (h : Rw w eb B l) (h0 : Rw w0 eb B l) (hg : w0.heap.size ≤ g) (j : Nat) (u : Value) : Rw (w.setCell ⟨g, j, none⟩ u) eb B l := by
  rcases h with h | ⟨b, off, e, hl, hn, hc⟩
  · exact .inl h
  · rcases h0 with h0 | ⟨b', off', e', hl', _, _⟩
    · exact .inl h0
    · rw [e] at e'
      cases e'
      exact .inr ⟨b, off, e, by simpa [World.setCell] using hl, ⟨hn.1, i32_set hn.2⟩, fun i hi => by
        rw [World.cell?_setCell_other _ _ _ _ (by intro e; have := congrArg Addr.block e; simp at this; omega)]; exact hc i hi⟩
theorem EdV.put {w w0 : World} {eb : Nat} {l : List Int} {k : Nat} {kept : List Int} {bad op : Bool} {g cap : Nat} {B : Option Addr} {cap2 : Nat} (h : EdV w eb l k kept bad op (some ⟨g, 0, none⟩) cap B cap2) (h0 : Rw w0 eb B kept) (hg : w0.heap.size ≤ g) (he : eb ≠ g) (j : Nat) (hj : j < l.length) (v : Int) :
    EdV (w.setCell ⟨g, j, none⟩ (.int .i32 v)) eb (l.set j v) k kept bad op (some ⟨g, 0, none⟩) cap B cap2 := by
  have o : ∀ i, (w.setCell ⟨g, j, none⟩ (.int .i32 v)).cell? ⟨eb, i, none⟩ = w.cell? ⟨eb, i, none⟩ := fun i => World.cell?_setCell_other _ _ _ _ (by intro e; have := congrArg Addr.block e; simp at this; omega)
  exact ⟨by rw [List.length_set]; exact (o 0).trans h.c0, (o 1).trans h.c1, (o 2).trans h.c2, (o 3).trans h.c3, (o 4).trans h.c4, h.r0.put0 j hj v, h.r2.off h0 hg j _, by rw [List.length_set]; exact h.lc, h.lc2, h.n0, h.n2, fun j => set_frozen.trans (h.f j), by simpa [World.setCell] using h.sz⟩
theorem EdK.fresh {eb : Nat} {a w : World} (h : EdK eb a w) {g : Nat} (hg : a.heap.size ≤ g) (o : Nat) (u : Value) : EdK eb a (w.setCell ⟨g, o, none⟩ u) :=
  ⟨h.os, h.tape, h.output, by simpa [World.setCell] using h.size, fun k hk h1 => (Below.heap_setCell _ _ _ _ (show k ≠ g by omega)).trans (h.rest k hk h1)⟩

def TrPost (eb : Nat) (l' : List Int) (k' : Nat) (kept : List Int) (op : Bool) (w : World) (e : Ending) (w' : World) : Prop :=
  e = .returned (.tuple #[]) ∧ Ed w' eb l' k' kept false op ∧ EdK eb w w'

attribute [local go_sem] undef in
set_option maxHeartbeats 2000000 in
theorem tr_open (eb : Nat) (l : List Int) (k : Nat) (kept : List Int) (w : World) (h : Ed w eb l k kept false false) (h0 : l.length = 0 ∨ l.length = 1 ∧ k = 1) :
    Calls Tryd.prog 30 #[.pointer (some ⟨eb, 0, none⟩)] w (TrPost eb l k kept true w) := by
  obtain ⟨A, cap, B, cap2, hv⟩ := h
  have HV := Go.Lib.hid hv
  have c0 := hv.c0
  have c1 := hv.c1
  have c4 := hv.c4
  have f4 := hv.f 4
  have z1 := hv.sz
  clear hv
  rcases h0 with h0 | ⟨h0, rfl⟩
  · have e0 : ((l.length : Int) == 0) = true := by simp [h0]
    rw [h0] at c0
    have c0' : w.cell? ⟨eb, 0, none⟩ = some (.slice A 0 cap) := c0
    clear c0 h0 e0
    go_enter Tryd.func30, Tryd.ntmps30
    go_wp2_with fail
    go_returns
    exact ⟨rfl, ⟨_, _, _, _, HV.out.setOpen true⟩, (EdK.refl _ _).set _ _⟩
  · rw [h0] at c0
    have c0' : w.cell? ⟨eb, 0, none⟩ = some (.slice A 1 cap) := c0
    have c1' : w.cell? ⟨eb, 1, none⟩ = some (.int .i64 1) := c1
    clear c0 c1 h0
    go_enter Tryd.func30, Tryd.ntmps30
    go_wp2_with fail
    go_returns
    exact ⟨rfl, ⟨_, _, _, _, HV.out.setOpen true⟩, (EdK.refl _ _).set _ _⟩

attribute [local go_sem] undef in
set_option maxHeartbeats 2000000 in
theorem tr_one (eb : Nat) (l : List Int) (kept : List Int) (w : World) (h : Ed w eb l 0 kept false false) (h0 : l.length = 1) :
    Calls Tryd.prog 30 #[.pointer (some ⟨eb, 0, none⟩)] w (TrPost eb l 1 kept false w) := by
  obtain ⟨A, cap, B, cap2, hv⟩ := h
  have HV := Go.Lib.hid hv
  have c0 := hv.c0
  have f1 := hv.f 1
  have z1 := hv.sz
  rw [h0] at c0
  have c0' : w.cell? ⟨eb, 0, none⟩ = some (.slice A 1 cap) := c0
  have c1' : w.cell? ⟨eb, 1, none⟩ = some (.int .i64 0) := hv.c1
  clear c0 h0 hv
  go_enter Tryd.func30, Tryd.ntmps30
  go_wp2_with fail
  go_returns
  exact ⟨rfl, ⟨_, _, _, _, HV.out.at 1⟩, (EdK.refl _ _).set _ _⟩

attribute [local go_sem] undef in
set_option maxRecDepth 100000 in
set_option maxHeartbeats 4000000 in
theorem tr_two (eb : Nat) (l : List Int) (k i : Nat) (kept : List Int) (w : World) (h : Ed w eb l k kept false false) (hk : k ≤ l.length) (h2 : 2 ≤ l.length) (hl : l.length ≤ 100000) (hi : i = min (max k 1) (l.length - 1)) :
    Calls Tryd.prog 30 #[.pointer (some ⟨eb, 0, none⟩)] w (TrPost eb (swp l i) (i + 1) kept false w) := by
  obtain ⟨A, cap, B, cap2, hv⟩ := h
  obtain ⟨A1, c1, w1, r1, o1, b1⟩ := copy_part w hv.r0 hv.n0 hv.lc hl hv.sz 0 l.length (Nat.zero_le _) (Nat.le_refl _)
  rw [fromA_zero, Nat.sub_zero, Nat.sub_zero] at r1
  rw [List.drop_zero, List.take_length] at o1
  obtain ⟨g, rfl, hg, hgz, hi32, hc, hf⟩ := o1.some (by omega)
  obtain ⟨q1, q2, q3⟩ := row_rw (eb := eb) o1 hv.sz
  have v1 := (hv.same b1).line q1 q2 q3
  obtain ⟨i1, hi1⟩ : ∃ i1, i1 = i - 1 := ⟨_, rfl⟩
  have hSW : swp l i = (l.set i1 (nth l i)).set i (nth l i1) := by rw [hi1]; rfl
  have x0 := hc i (nth l i) (nth_some l i (by omega))
  have x1 := hc i1 (nth l i1) (nth_some l i1 (by omega))
  have g0 := hf i
  have g1 := hf i1
  obtain ⟨y0, hy0⟩ : ∃ y, y = nth l i := ⟨_, rfl⟩
  obtain ⟨y1, hy1⟩ : ∃ y, y = nth l i1 := ⟨_, rfl⟩
  rw [← hy0] at x0 hSW
  rw [← hy1] at x1 hSW
  have hge : eb ≠ g := by have := hv.sz; omega
  obtain ⟨wx, hwx⟩ : ∃ wx, wx = w1.setCell ⟨eb, 0, none⟩ (.slice (some ⟨g, 0, none⟩) l.length c1) := ⟨_, rfl⟩
  rw [← hwx] at v1
  have ne : ∀ j, (⟨g, j, none⟩ : Addr) ≠ ⟨eb, 0, none⟩ := fun j e => by have := congrArg Addr.block e; simp at this; omega
  have d0 : wx.cell? ⟨g, i, none⟩ = some (.int .i32 y0) := by rw [hwx, World.cell?_setCell_other _ _ _ _ (by intro e; first | exact ne i e | exact ne i e.symm)]; exact x0
  have d1 : wx.cell? ⟨g, i1, none⟩ = some (.int .i32 y1) := by rw [hwx, World.cell?_setCell_other _ _ _ _ (by intro e; first | exact ne i1 e | exact ne i1 e.symm)]; exact x1
  have h0 : wx.frozen? ⟨g, i, none⟩ = false := by rw [hwx, World.frozen?_setCell]; exact g0
  have h1 : wx.frozen? ⟨g, i1, none⟩ = false := by rw [hwx, World.frozen?_setCell]; exact g1
  have KX : Hid (EdK eb w wx) := hwx ▸ (EdK.of b1).set _ _
  have hib : 0 < i ∧ i < l.length := by omega
  have hii : i1 < l.length := by omega
  have hw1 : IntKind.i64.wrap ((i : Int) - 1) = (i1 : Nat) := by rw [IntWalk.i64_in _ (by omega)]; omega
  have z0 : (i : Int) < l.length := by omega
  have z1 : (i1 : Int) < l.length := by omega
  have hne1 : ¬ i = i1 := by omega
  have hne2 : ¬ i1 = i := by omega
  have vA := v1.same (Below.refl wx.heap.size wx).drew
  have vB := vA.put (w0 := w) hv.r2 hg hge i1 hii y0
  have vC := vB.put (w0 := w) hv.r2 hg hge i (by rw [List.length_set]; exact hib.2) y1
  rw [← hSW] at vC
  have VC := Go.Lib.hid vC
  have KC : Hid (EdK eb w ((wx.drew.setCell ⟨g, i1, none⟩ (.int .i32 y0)).setCell ⟨g, i, none⟩ (.int .i32 y1))) := ((KX.out.drewN 1).fresh hg i1 (.int .i32 y0)).fresh hg i (.int .i32 y1)
  have a0 := v1.c0
  have s0 : (wx.drew.setCell ⟨g, i1, none⟩ (.int .i32 y0)).cell? ⟨eb, 0, none⟩ = some (.slice (some ⟨g, 0, none⟩) l.length c1) := by have := vB.c0; rw [List.length_set] at this; exact this
  have s1 : (wx.drew.setCell ⟨g, i1, none⟩ (.int .i32 y0)).cell? ⟨g, i, none⟩ = some (.int .i32 y0) := (World.cell?_setCell_other _ _ _ _ (by intro e; have := congrArg Addr.off e; simp at this; omega)).trans d0
  have t1 : ((wx.setCell ⟨g, i1, none⟩ (.int .i32 y0)).setCell ⟨g, i, none⟩ (.int .i32 y1)).cell? ⟨eb, 1, none⟩ = some (.int .i64 (k : Nat)) := vC.c1
  have tf : ((wx.setCell ⟨g, i1, none⟩ (.int .i32 y0)).setCell ⟨g, i, none⟩ (.int .i32 y1)).frozen? ⟨eb, 1, none⟩ = false := vC.f 1
  have c0 := hv.c0
  have c1' := hv.c1
  have w0c := (b1.cell (p := ⟨eb, 0, none⟩) hv.sz).trans c0
  have w0f := (b1.frozen (p := ⟨eb, 0, none⟩) hv.sz).trans (hv.f 0)
  have sz := hv.sz
  have R1 := Go.Lib.hid r1
  have e0 : ((l.length : Int) == 0) = false := by rw [beq_eq_false_iff_ne]; omega
  have e1 : ((l.length : Int) == 1) = false := by simp; omega
  obtain ⟨nn, hnn⟩ : ∃ nn, nn = l.length - 1 := ⟨_, rfl⟩
  obtain ⟨mk, hmk⟩ : ∃ mk, mk = max k 1 := ⟨_, rfl⟩
  have hn1 : IntKind.i64.wrap ((l.length : Int) - 1) = (nn : Nat) := by rw [IntWalk.i64_in _ (by omega)]; omega
  have hm1 : (if (k : Int) < 1 then (1 : Int) else (k : Int)) = (mk : Nat) := by split <;> omega
  have hm2 : (if (nn : Int) < (mk : Int) then (nn : Int) else (mk : Int)) = (i : Nat) := by split <;> omega
  have hm4 : (if nn < mk then (nn : Int) else (mk : Int)) = (i : Nat) := by split <;> omega
  have hm5 : (if mk ≤ nn then (mk : Int) else (nn : Int)) = (i : Nat) := by split <;> omega
  have hm3 : (if (mk : Int) ≤ (nn : Int) then (mk : Int) else (nn : Int)) = (i : Nat) := by split <;> omega
  have ha := hwx.symm
  clear hnn hmk hv r1 o1 b1 hc hf q1 q2 q3 v1 x0 x1 g0 g1 hy0 hy1 hwx ne vA vB vC hi hi1 hi32 hSW
  go_enter Tryd.func30, Tryd.ntmps30
  go_wp2_with (at_builtin; refine wpList_append_run rfl _ _ 38 rfl _ _ _ rfl rfl R1.out ?_)
  clear ha hm1 hm2 hm3 hm4 hm5
  refine region_held_tail 28 (S := (fun w' => w'.cell? ⟨eb, 0, none⟩ = some (.slice (some ⟨g, 0, none⟩) l.length c1) ∧ w'.cell? ⟨g, i, none⟩ = some (.int .i32 y0))) (by kernel_rfl) (by kernel_rfl) ?_ (fun hHeld => ?_)
  · (try dsimp only); first | done | (first | exact ⟨a0, d0⟩ | exact ⟨s0, s1⟩)
  refine HeldT.take (i := 0) (v := ?_) (by simp only [List.getElem?_toArray, List.getElem?_cons_succ, List.getElem?_cons_zero]; rfl) (by kernel_rfl) (by kernel_rfl) (by kernel_rfl) (by kernel_rfl) (by exact fun _ _ _ h => h) ?_ (by assumption) ?_
  rotate_left
  · refine Or.inl ⟨by rfl, ?_⟩
    (intro w hSw; (try dsimp only at hSw); go_simp; try with_reducible rfl)
  try simp only [Act.put, List.setIfInBounds_toArray, List.set_cons_zero, List.set_cons_succ]
  refine HeldT.take (i := 1) (v := ?_) (by simp only [List.getElem?_toArray, List.getElem?_cons_succ, List.getElem?_cons_zero]; rfl) (by kernel_rfl) (by kernel_rfl) (by kernel_rfl) (by kernel_rfl) (by exact fun _ _ _ h => h) ?_ (by assumption) ?_
  rotate_left
  · refine Or.inl ⟨by rfl, ?_⟩
    (intro w hSw; (try dsimp only at hSw); go_simp; try with_reducible rfl)
  try simp only [Act.put, List.setIfInBounds_toArray, List.set_cons_zero, List.set_cons_succ]
  refine HeldT.take (i := 2) (v := ?_) (by simp only [List.getElem?_toArray, List.getElem?_cons_succ, List.getElem?_cons_zero]; rfl) (by kernel_rfl) (by kernel_rfl) (by kernel_rfl) (by kernel_rfl) (by exact fun _ _ _ h => h) ?_ (by assumption) ?_
  rotate_left
  · refine Or.inl ⟨by rfl, ?_⟩
    (intro w hSw; (try dsimp only at hSw); go_simp; try with_reducible rfl)
  try simp only [Act.put, List.setIfInBounds_toArray, List.set_cons_zero, List.set_cons_succ]
  refine HeldT.take (i := 3) (v := ?_) (by simp only [List.getElem?_toArray, List.getElem?_cons_succ, List.getElem?_cons_zero]; rfl) (by kernel_rfl) (by kernel_rfl) (by kernel_rfl) (by kernel_rfl) (by exact fun _ _ _ h => h) ?_ (by assumption) ?_
  rotate_left
  · refine Or.inl ⟨by rfl, ?_⟩
    (intro w hSw; (try dsimp only at hSw); go_simp; try with_reducible rfl)
  try simp only [Act.put, List.setIfInBounds_toArray, List.set_cons_zero, List.set_cons_succ]
  refine HeldT.take (i := 4) (v := ?_) (by simp only [List.getElem?_toArray, List.getElem?_cons_succ, List.getElem?_cons_zero]; rfl) (by kernel_rfl) (by kernel_rfl) (by kernel_rfl) (by kernel_rfl) (by exact fun _ _ _ h => h) ?_ (by assumption) ?_
  rotate_left
  · refine Or.inl ⟨by rfl, ?_⟩
    (intro w hSw; (try dsimp only at hSw); go_simp; try with_reducible rfl)
  try simp only [Act.put, List.setIfInBounds_toArray, List.set_cons_zero, List.set_cons_succ]
  refine HeldT.take (i := 5) (v := ?_) (by simp only [List.getElem?_toArray, List.getElem?_cons_succ, List.getElem?_cons_zero]; rfl) (by kernel_rfl) (by kernel_rfl) (by kernel_rfl) (by kernel_rfl) (by exact fun _ _ _ h => h) ?_ (by assumption) ?_
  rotate_left
  · refine Or.inl ⟨by rfl, ?_⟩
    (intro w hSw; (try dsimp only at hSw); go_simp; try with_reducible rfl)
  try simp only [Act.put, List.setIfInBounds_toArray, List.set_cons_zero, List.set_cons_succ]
  refine HeldT.take (i := 6) (v := ?_) (by simp only [List.getElem?_toArray, List.getElem?_cons_succ, List.getElem?_cons_zero]; rfl) (by kernel_rfl) (by kernel_rfl) (by kernel_rfl) (by kernel_rfl) (by exact fun _ _ _ h => h) ?_ (by assumption) ?_
  rotate_left
  · refine Or.inl ⟨by rfl, ?_⟩
    (intro w hSw; (try dsimp only at hSw); go_simp; try with_reducible rfl)
  try simp only [Act.put, List.setIfInBounds_toArray, List.set_cons_zero, List.set_cons_succ]
  refine HeldT.take (i := 7) (v := ?_) (by simp only [List.getElem?_toArray, List.getElem?_cons_succ, List.getElem?_cons_zero]; rfl) (by kernel_rfl) (by kernel_rfl) (by kernel_rfl) (by kernel_rfl) (by exact fun _ _ _ h => h) ?_ (by assumption) ?_
  rotate_left
  · refine Or.inl ⟨by rfl, ?_⟩
    (intro w hSw; (try dsimp only at hSw); go_simp; try with_reducible rfl)
  try simp only [Act.put, List.setIfInBounds_toArray, List.set_cons_zero, List.set_cons_succ]
  refine HeldT.take (i := 8) (v := ?_) (by simp only [List.getElem?_toArray, List.getElem?_cons_succ, List.getElem?_cons_zero]; rfl) (by kernel_rfl) (by kernel_rfl) (by kernel_rfl) (by kernel_rfl) (by exact fun _ _ _ h => h) ?_ (by assumption) ?_
  rotate_left
  · refine Or.inl ⟨by rfl, ?_⟩
    (intro w hSw; (try dsimp only at hSw); go_simp; try with_reducible rfl)
  try simp only [Act.put, List.setIfInBounds_toArray, List.set_cons_zero, List.set_cons_succ]
  refine HeldT.take (i := 9) (v := ?_) (by simp only [List.getElem?_toArray, List.getElem?_cons_succ, List.getElem?_cons_zero]; rfl) (by kernel_rfl) (by kernel_rfl) (by kernel_rfl) (by kernel_rfl) (by exact fun _ _ _ h => h) ?_ (by assumption) ?_
  rotate_left
  · refine Or.inl ⟨by rfl, ?_⟩
    (intro w hSw; (try dsimp only at hSw); go_simp; try with_reducible rfl)
  try simp only [Act.put, List.setIfInBounds_toArray, List.set_cons_zero, List.set_cons_succ]
  refine HeldT.take (i := 10) (v := ?_) (by simp only [List.getElem?_toArray, List.getElem?_cons_succ, List.getElem?_cons_zero]; rfl) (by kernel_rfl) (by kernel_rfl) (by kernel_rfl) (by kernel_rfl) (by exact fun _ _ _ h => h) ?_ (by assumption) ?_
  rotate_left
  · refine Or.inl ⟨by rfl, ?_⟩
    (intro w hSw; (try dsimp only at hSw); go_simp; try with_reducible rfl)
  try simp only [Act.put, List.setIfInBounds_toArray, List.set_cons_zero, List.set_cons_succ]
  refine HeldT.take (i := 11) (v := ?_) (by simp only [List.getElem?_toArray, List.getElem?_cons_succ, List.getElem?_cons_zero]; rfl) (by kernel_rfl) (by kernel_rfl) (by kernel_rfl) (by kernel_rfl) (by exact fun _ _ _ h => h) ?_ (by assumption) ?_
  rotate_left
  · refine Or.inl ⟨by rfl, ?_⟩
    (intro w hSw; (try dsimp only at hSw); go_simp; try with_reducible rfl)
  try simp only [Act.put, List.setIfInBounds_toArray, List.set_cons_zero, List.set_cons_succ]
  refine HeldT.take (i := 12) (v := ?_) (by simp only [List.getElem?_toArray, List.getElem?_cons_succ, List.getElem?_cons_zero]; rfl) (by kernel_rfl) (by kernel_rfl) (by kernel_rfl) (by kernel_rfl) (by exact fun _ _ _ h => h) ?_ (by assumption) ?_
  rotate_left
  · refine Or.inl ⟨by rfl, ?_⟩
    (intro w hSw; (try dsimp only at hSw); go_simp; try with_reducible rfl)
  try simp only [Act.put, List.setIfInBounds_toArray, List.set_cons_zero, List.set_cons_succ]
  refine HeldT.take (i := 13) (v := ?_) (by simp only [List.getElem?_toArray, List.getElem?_cons_succ, List.getElem?_cons_zero]; rfl) (by kernel_rfl) (by kernel_rfl) (by kernel_rfl) (by kernel_rfl) (by exact fun _ _ _ h => h) ?_ (by assumption) ?_
  rotate_left
  · refine Or.inl ⟨by rfl, ?_⟩
    (intro w hSw; (try dsimp only at hSw); go_simp; try with_reducible rfl)
  try simp only [Act.put, List.setIfInBounds_toArray, List.set_cons_zero, List.set_cons_succ]
  refine HeldT.take (i := 14) (v := ?_) (by simp only [List.getElem?_toArray, List.getElem?_cons_succ, List.getElem?_cons_zero]; rfl) (by kernel_rfl) (by kernel_rfl) (by kernel_rfl) (by kernel_rfl) (by exact fun _ _ _ h => h) ?_ (by assumption) ?_
  rotate_left
  · refine Or.inl ⟨by rfl, ?_⟩
    (intro w hSw; (try dsimp only at hSw); go_simp; try with_reducible rfl)
  try simp only [Act.put, List.setIfInBounds_toArray, List.set_cons_zero, List.set_cons_succ]
  refine HeldT.take (i := 15) (v := ?_) (by simp only [List.getElem?_toArray, List.getElem?_cons_succ, List.getElem?_cons_zero]; rfl) (by kernel_rfl) (by kernel_rfl) (by kernel_rfl) (by kernel_rfl) (by exact fun _ _ _ h => h) ?_ (by assumption) ?_
  rotate_left
  · refine Or.inl ⟨by rfl, ?_⟩
    (intro w hSw; (try dsimp only at hSw); go_simp; try with_reducible rfl)
  try simp only [Act.put, List.setIfInBounds_toArray, List.set_cons_zero, List.set_cons_succ]
  refine HeldT.take (i := 16) (v := ?_) (by simp only [List.getElem?_toArray, List.getElem?_cons_succ, List.getElem?_cons_zero]; rfl) (by kernel_rfl) (by kernel_rfl) (by kernel_rfl) (by kernel_rfl) (by exact fun _ _ _ h => h) ?_ (by assumption) ?_
  rotate_left
  · refine Or.inl ⟨by rfl, ?_⟩
    (intro w hSw; (try dsimp only at hSw); go_simp; try with_reducible rfl)
  try simp only [Act.put, List.setIfInBounds_toArray, List.set_cons_zero, List.set_cons_succ]
  refine HeldT.take (i := 17) (v := ?_) (by simp only [List.getElem?_toArray, List.getElem?_cons_succ, List.getElem?_cons_zero]; rfl) (by kernel_rfl) (by kernel_rfl) (by kernel_rfl) (by kernel_rfl) (by exact fun _ _ _ h => h) ?_ (by assumption) ?_
  rotate_left
  · refine Or.inl ⟨by rfl, ?_⟩
    (intro w hSw; (try dsimp only at hSw); go_simp; try with_reducible rfl)
  try simp only [Act.put, List.setIfInBounds_toArray, List.set_cons_zero, List.set_cons_succ]
  refine HeldT.take (i := 18) (v := ?_) (by simp only [List.getElem?_toArray, List.getElem?_cons_succ, List.getElem?_cons_zero]; rfl) (by kernel_rfl) (by kernel_rfl) (by kernel_rfl) (by kernel_rfl) (by exact fun _ _ _ h => h) ?_ (by assumption) ?_
  rotate_left
  · refine Or.inl ⟨by rfl, ?_⟩
    (intro w hSw; (try dsimp only at hSw); go_simp; try with_reducible rfl)
  try simp only [Act.put, List.setIfInBounds_toArray, List.set_cons_zero, List.set_cons_succ]
  refine HeldT.take (i := 19) (v := ?_) (by simp only [List.getElem?_toArray, List.getElem?_cons_succ, List.getElem?_cons_zero]; rfl) (by kernel_rfl) (by kernel_rfl) (by kernel_rfl) (by kernel_rfl) (by exact fun _ _ _ h => h) ?_ (by assumption) ?_
  rotate_left
  · refine Or.inl ⟨by rfl, ?_⟩
    (intro w hSw; (try dsimp only at hSw); go_simp; try with_reducible rfl)
  try simp only [Act.put, List.setIfInBounds_toArray, List.set_cons_zero, List.set_cons_succ]
  refine HeldT.take (i := 20) (v := ?_) (by simp only [List.getElem?_toArray, List.getElem?_cons_succ, List.getElem?_cons_zero]; rfl) (by kernel_rfl) (by kernel_rfl) (by kernel_rfl) (by kernel_rfl) (by exact fun _ _ _ h => h) ?_ (by assumption) ?_
  rotate_left
  · refine Or.inl ⟨by rfl, ?_⟩
    (intro w hSw; (try dsimp only at hSw); go_simp; try with_reducible rfl)
  try simp only [Act.put, List.setIfInBounds_toArray, List.set_cons_zero, List.set_cons_succ]
  refine HeldT.take (i := 21) (v := ?_) (by simp only [List.getElem?_toArray, List.getElem?_cons_succ, List.getElem?_cons_zero]; rfl) (by kernel_rfl) (by kernel_rfl) (by kernel_rfl) (by kernel_rfl) (by exact fun _ _ _ h => h) ?_ (by assumption) ?_
  rotate_left
  · refine Or.inl ⟨by rfl, ?_⟩
    (intro w hSw; (try dsimp only at hSw); go_simp; try with_reducible rfl)
  try simp only [Act.put, List.setIfInBounds_toArray, List.set_cons_zero, List.set_cons_succ]
  refine HeldT.take (i := 22) (v := ?_) (by simp only [List.getElem?_toArray, List.getElem?_cons_succ, List.getElem?_cons_zero]; rfl) (by kernel_rfl) (by kernel_rfl) (by kernel_rfl) (by kernel_rfl) (by exact fun _ _ _ h => h) ?_ (by assumption) ?_
  rotate_left
  · refine Or.inl ⟨by rfl, ?_⟩
    (intro w hSw; (try dsimp only at hSw); go_simp; try with_reducible rfl)
  try simp only [Act.put, List.setIfInBounds_toArray, List.set_cons_zero, List.set_cons_succ]
  refine HeldT.take (i := 23) (v := ?_) (by simp only [List.getElem?_toArray, List.getElem?_cons_succ, List.getElem?_cons_zero]; rfl) (by kernel_rfl) (by kernel_rfl) (by kernel_rfl) (by kernel_rfl) (by exact fun _ _ _ h => h) ?_ (by assumption) ?_
  rotate_left
  · refine Or.inl ⟨by rfl, ?_⟩
    (intro w hSw; (try dsimp only at hSw); go_simp; try with_reducible rfl)
  try simp only [Act.put, List.setIfInBounds_toArray, List.set_cons_zero, List.set_cons_succ]
  refine HeldT.take (i := 24) (v := ?_) (by simp only [List.getElem?_toArray, List.getElem?_cons_succ, List.getElem?_cons_zero]; rfl) (by kernel_rfl) (by kernel_rfl) (by kernel_rfl) (by kernel_rfl) (by exact fun _ _ _ h => h) ?_ (by assumption) ?_
  rotate_left
  · refine Or.inl ⟨by rfl, ?_⟩
    (intro w hSw; (try dsimp only at hSw); go_simp; try with_reducible rfl)
  try simp only [Act.put, List.setIfInBounds_toArray, List.set_cons_zero, List.set_cons_succ]
  refine HeldT.one (i := 25) (by simp only [List.getElem?_toArray, List.getElem?_cons_succ, List.getElem?_cons_zero]; rfl) (by kernel_rfl) (by kernel_rfl) (fun K hK => ?_)
  go_simp
  refine hK.out _ _ ?_ (fun hHeld => ?_)
  · (try dsimp only); first | done | (first | exact ⟨a0, d0⟩ | exact ⟨s0, s1⟩)
  clear hK K
  try simp only [Act.put, List.setIfInBounds_toArray, List.set_cons_zero, List.set_cons_succ]
  refine HeldT.take (i := 26) (v := ?_) (by simp only [List.getElem?_toArray, List.getElem?_cons_succ, List.getElem?_cons_zero]; rfl) (by kernel_rfl) (by kernel_rfl) (by kernel_rfl) (by kernel_rfl) (by exact fun _ _ _ h => h) ?_ (by assumption) ?_
  rotate_left
  · refine Or.inl ⟨by rfl, ?_⟩
    (intro w hSw; (try dsimp only at hSw); go_simp; try with_reducible rfl)
  try simp only [Act.put, List.setIfInBounds_toArray, List.set_cons_zero, List.set_cons_succ]
  refine HeldT.one (i := 27) (by simp only [List.getElem?_toArray, List.getElem?_cons_succ, List.getElem?_cons_zero]; rfl) (by kernel_rfl) (by kernel_rfl) (fun K hK => ?_)
  go_simp
  refine hK.out _ _ ?_ (fun hHeld => ?_)
  · (try dsimp only); first | done | (first | exact ⟨a0, d0⟩ | exact ⟨s0, s1⟩)
  clear hK K
  try simp only [Act.put, List.setIfInBounds_toArray, List.set_cons_zero, List.set_cons_succ]
  refine HeldT.tail (by kernel_rfl) rfl ?_
  clear hHeld
  go_wp2_with fail
  go_returns
  exact ⟨rfl, ⟨_, _, _, _, VC.out.at (i + 1)⟩, KC.out.set _ _⟩
end Go.Proofs.YtoimdbmjpkmkfaaDoor
