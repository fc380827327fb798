/- The walk of laws.FnWords: the words next to a cursor, by blanks. -/
import Derived.Test.YtedjjimabchffaaSpecAround
import Derived.Test.YtedjjimabchffaaHeldTail
import Derived.Deep.MidRow
import Derived.Deep.Cut
import Derived.Deep.CutRange
import Derived.Deep.RegionHeld3
namespace Go.Proofs.Ytedjjimabchffaa
open Go.RowKit
set_option linter.unusedVariables false
set_option linter.unusedSimpArgs false

theorem bcell {W w1 : World} (hb : Below W.heap.size W w1) : (∀ b o, b < W.heap.size → w1.cell? ⟨b, o, none⟩ = W.cell? ⟨b, o, none⟩) ∧ (∀ b o, b < W.heap.size → w1.frozen? ⟨b, o, none⟩ = W.frozen? ⟨b, o, none⟩) :=
  ⟨fun b o h => hb.cell (p := ⟨b, o, none⟩) h, fun b o h => hb.frozen (p := ⟨b, o, none⟩) h⟩

/-- The two tellings, with the words' names in the place of what they are. -/
def Tell (X WB WA SB SA : ByteArray) (w : World) (e : Ending) (w' : World) : Prop :=
  ∃ (Y lb la l : ByteArray) (r c te : Int) (g n cap : Nat) (bb : Bool), e = .returned (.agg #[.string X, .string Y, .string lb, .string la, .string l, .int .i64 r, .int .i64 c, .slice (some ⟨g, 0, none⟩) n cap, .bool bb, .int .i64 te, .string WB, .string WA, .string SB, .string SA]) ∧ Below w.heap.size w w'

theorem tell_impl (s : ByteArray) (k : Nat) (w : World) (hs : Small s) (hk : k ≤ s.size) :
    Calls Try.prog 17 #[.agg #[.string s, .int .i64 (k : Nat)]] w (Tell (s.extract 0 k) ((s.extract 0 k).extract (wStart (s.extract 0 k)) k) ((s.extract k s.size).extract 0 (wEnd (s.extract k s.size))) ((s.extract 0 k).extract (wStartS (s.extract 0 k)) k) ((s.extract k s.size).extract 0 (wEndS (s.extract k s.size))) w) :=
  (around_any s k w hs hk).mono fun _ _ ⟨g, cap, he, hb⟩ => ⟨_, _, _, _, _, _, _, g, _, cap, _, he, hb⟩
theorem tell_spec (s : ByteArray) (k : Nat) (w : World) (hs : Small s) (hk : k ≤ s.size) :
    Calls Try.prog 18 #[.agg #[.string s, .int .i64 (k : Nat)]] w (Tell (s.extract 0 k) ((s.extract 0 k).extract (wStart (s.extract 0 k)) k) ((s.extract k s.size).extract 0 (wEnd (s.extract k s.size))) ((s.extract 0 k).extract (wStartS (s.extract 0 k)) k) ((s.extract k s.size).extract 0 (wEndS (s.extract k s.size))) w) :=
  (spec_around s k w hs hk).mono fun _ _ ⟨lb, la, l, r, c, te, g, n, cap, bb, he, hb⟩ => ⟨_, lb, la, l, r, c, te, g, n, cap, bb, he, hb⟩

theorem keepW {wp w1 : World} {b : Nat} {x y : Value} (b1 : Below wp.heap.size wp w1) (h1 : wp.cell? ⟨b, 0, none⟩ = some x) (h2 : wp.cell? ⟨b, 1, none⟩ = some y) (h3 : b < wp.heap.size) :
    w1.cell? ⟨b, 0, none⟩ = some x ∧ w1.cell? ⟨b, 1, none⟩ = some y ∧ b < w1.heap.size :=
  ⟨(b1.cell (p := ⟨b, 0, none⟩) h3).trans h1, (b1.cell (p := ⟨b, 1, none⟩) h3).trans h2, Nat.lt_of_lt_of_le h3 b1.size⟩

/-- Cells of a block, stored one behind the other. -/
def puts (W : World) (g : Nat) : Nat → List Value → World
  | _, [] => W
  | j, v :: vs => puts (W.setCell ⟨g, j, none⟩ v) g (j + 1) vs

theorem puts_size (g : Nat) : ∀ (vs : List Value) (j : Nat) (W : World), (puts W g j vs).heap.size = W.heap.size
  | [], j, W => rfl
  | v :: vs, j, W => by rw [puts, puts_size g vs]; simp

theorem puts_other (g : Nat) (a : Addr) (ha : a.block ≠ g) : ∀ (vs : List Value) (j : Nat) (W : World), (puts W g j vs).cell? a = W.cell? a
  | [], j, W => rfl
  | v :: vs, j, W => by rw [puts, puts_other g a ha vs, World.cell?_setCell_other _ _ _ _ (by intro e; exact ha (by rw [← e]))]

theorem puts_before (g i : Nat) : ∀ (vs : List Value) (j : Nat) (W : World), i < j → (puts W g j vs).cell? ⟨g, i, none⟩ = W.cell? ⟨g, i, none⟩
  | [], j, W, _ => rfl
  | v :: vs, j, W, h => by rw [puts, puts_before g i vs (j + 1) _ (by omega), World.cell?_setCell_other _ _ _ _ (by intro e; have := congrArg Addr.off e; simp at this; omega)]

theorem puts_cell (g : Nat) : ∀ (vs : List Value) (j i : Nat) (W : World) (v : Value), (∀ m, m < j + vs.length → ∃ u, W.cell? ⟨g, m, none⟩ = some u) → vs[i]? = some v → (puts W g j vs).cell? ⟨g, j + i, none⟩ = some v
  | [], j, i, W, v, _, h => by simp at h
  | u :: vs, j, 0, W, v, hm, h => by
    obtain rfl : u = v := by simpa using h
    obtain ⟨x, hx⟩ := hm j (by simp)
    show (puts W g j (u :: vs)).cell? ⟨g, j, none⟩ = some u
    rw [puts, puts_before g j vs (j + 1) _ (by omega), World.cell?_setCell_same' _ _ _ (by rw [hx]; rfl)]
  | u :: vs, j, i + 1, W, v, hm, h => by
    have := puts_cell g vs (j + 1) i (W.setCell ⟨g, j, none⟩ u) v (fun m hm2 => by
      obtain ⟨x, hx⟩ := hm m (by simp; omega)
      by_cases e : m = j
      · exact ⟨_, by rw [e]; exact World.cell?_setCell_same' _ _ _ (by rw [← e, hx]; rfl)⟩
      · exact ⟨x, by rw [World.cell?_setCell_other _ _ _ _ (by intro h; exact e (by have := congrArg Addr.off h; simpa using this.symm))]; exact hx⟩) (by simpa using h)
    rw [puts, show j + (i + 1) = j + 1 + i by omega]
    exact this

theorem puts_below (B g : Nat) (hg : B ≤ g) : ∀ (vs : List Value) (j : Nat) (w W : World), Below B w W → Below B w (puts W g j vs)
  | [], j, w, W, h => h
  | v :: vs, j, w, W, h => by rw [puts]; exact puts_below B g hg vs (j + 1) w _ (h.setCell hg _)

/-- Two tellings lie in two blocks. -/
def Both (X WB WA SB SA : ByteArray) (w : World) (g3 g4 : Nat) (wx : World) : Prop :=
  Below w.heap.size w wx ∧ g3 < wx.heap.size ∧ g4 < wx.heap.size ∧ ∀ g, g = g3 ∨ g = g4 → wx.cell? ⟨g, 0, none⟩ = some (.string X) ∧ wx.cell? ⟨g, 10, none⟩ = some (.string WB) ∧ wx.cell? ⟨g, 11, none⟩ = some (.string WA) ∧ wx.cell? ⟨g, 12, none⟩ = some (.string SB) ∧ wx.cell? ⟨g, 13, none⟩ = some (.string SA)

theorem both_puts {X WB WA SB SA : ByteArray} {w W : World} {g3 g4 : Nat} (va vb : List Value) (hl : va.length = 14) (hl' : vb.length = 14) (hb : Below w.heap.size w W) (h3 : w.heap.size ≤ g3) (h4 : w.heap.size ≤ g4) (l3 : g3 < W.heap.size) (l4 : g4 < W.heap.size) (hne : g3 ≠ g4)
    (e3 : ∀ j, j < 14 → ∃ u, W.cell? ⟨g3, j, none⟩ = some u) (e4 : ∀ j, j < 14 → ∃ u, W.cell? ⟨g4, j, none⟩ = some u)
    (ha : va[0]? = some (.string X) ∧ va[10]? = some (.string WB) ∧ va[11]? = some (.string WA) ∧ va[12]? = some (.string SB) ∧ va[13]? = some (.string SA))
    (hv : vb[0]? = some (.string X) ∧ vb[10]? = some (.string WB) ∧ vb[11]? = some (.string WA) ∧ vb[12]? = some (.string SB) ∧ vb[13]? = some (.string SA)) :
    Both X WB WA SB SA w g3 g4 (puts (puts W g3 0 va) g4 0 vb) := by
  have hB := puts_below _ g4 h4 vb 0 w _ (puts_below _ g3 h3 va 0 w _ hb)
  have f3 : ∀ i v, va[i]? = some v → (puts (puts W g3 0 va) g4 0 vb).cell? ⟨g3, i, none⟩ = some v := fun i v h => by
    rw [puts_other g4 _ hne]
    have := puts_cell g3 va 0 i W v (fun m hm => e3 m (by omega)) h
    simpa using this
  have f4 : ∀ i v, vb[i]? = some v → (puts (puts W g3 0 va) g4 0 vb).cell? ⟨g4, i, none⟩ = some v := fun i v h => by
    have := puts_cell g4 vb 0 i (puts W g3 0 va) v (fun m hm => by rw [puts_other g3 _ hne.symm]; exact e4 m (by omega)) h
    simpa using this
  refine ⟨hB, by rw [puts_size, puts_size]; exact l3, by rw [puts_size, puts_size]; exact l4, fun g hg => ?_⟩
  rcases hg with rfl | rfl
  · exact ⟨f3 0 _ ha.1, f3 10 _ ha.2.1, f3 11 _ ha.2.2.1, f3 12 _ ha.2.2.2.1, f3 13 _ ha.2.2.2.2⟩
  · exact ⟨f4 0 _ hv.1, f4 10 _ hv.2.1, f4 11 _ hv.2.2.1, f4 12 _ hv.2.2.2.1, f4 13 _ hv.2.2.2.2⟩
theorem Both.drew {X WB WA SB SA : ByteArray} {w wx : World} {g3 g4 : Nat} (h : Both X WB WA SB SA w g3 g4 wx) : Both X WB WA SB SA w g3 g4 wx.drew := ⟨h.1.drew, h.2.1, h.2.2.1, h.2.2.2⟩

theorem HeldT.three {P : Program} {ops : Array Oper} {Q : Exit → Act → World → Prop} {S : World → Prop} {n i k l : Nat} {o o' o'' : Oper} {f : Nat} {s : Array Bool} {a : Act} {w : World} (hi : ops[i]? = some o) (hk : ops[k]? = some o') (hl : ops[l]? = some o'') (hin : decide (i < n) = true) (hkn : decide (k < n) = true) (hln : decide (l < n) = true) (hr : Region.ready .any ops s = [i, k, l])
    (h : ∀ K' : Act → World → Prop, Shut (∀ a w, S w → (S w → HeldT P ops Q S n f (s.setIfInBounds i true) a w) → K' a w) → if Region.wanted o (yielded ops a.tmps) = true then Oper.wp P o a w K' Q else K' (a.put o.dst undef) w)
    (h' : ∀ K' : Act → World → Prop, Shut (∀ a w, S w → (S w → HeldT P ops Q S n f (s.setIfInBounds k true) a w) → K' a w) → if Region.wanted o' (yielded ops a.tmps) = true then Oper.wp P o' a w K' Q else K' (a.put o'.dst undef) w)
    (h'' : ∀ K' : Act → World → Prop, Shut (∀ a w, S w → (S w → HeldT P ops Q S n f (s.setIfInBounds l true) a w) → K' a w) → if Region.wanted o'' (yielded ops a.tmps) = true then Oper.wp P o'' a w K' Q else K' (a.put o''.dst undef) w) :
    HeldT P ops Q S n (f + 1) s a w := fun h1 h2 h3 inv => by
  have hin' : i < n := of_decide_eq_true hin
  have hkn' : k < n := of_decide_eq_true hkn
  have hln' : l < n := of_decide_eq_true hln
  have hm : i ∈ Region.ready .any ops s := by rw [hr]; simp
  have hm' : k ∈ Region.ready .any ops s := by rw [hr]; simp
  have hm'' : l ∈ Region.ready .any ops s := by rw [hr]; simp
  refine ⟨by rw [hr]; simp, fun j hj => ?_⟩
  have : j = i ∨ j = k ∨ j = l := by rw [hr] at hj; simpa using hj
  rcases this with e | e | e
  · subst e
    exact ⟨hin', wpOp_step hi (fun K' hK => h K' (fun a w hS hW => hK a w ⟨hS, hW hS h1 h2 h3 (inv.set hm hin')⟩))⟩
  · subst e
    exact ⟨hkn', wpOp_step hk (fun K' hK => h' K' (fun a w hS hW => hK a w ⟨hS, hW hS h1 h2 h3 (inv.set hm' hkn')⟩))⟩
  · subst e
    exact ⟨hln', wpOp_step hl (fun K' hK => h'' K' (fun a w hS hW => hK a w ⟨hS, hW hS h1 h2 h3 (inv.set hm'' hln')⟩))⟩

theorem puts_eq (g : Nat) : ∀ (vs : List Value) (j : Nat) (W : World), W.setCells g j vs = puts W g j vs
  | [], _, _ => rfl
  | v :: vs, j, W => puts_eq g vs (j + 1) _

structure St (w : World) (s : ByteArray) (k : Nat) (W : World) : Prop where
  c0 : W.cell? ⟨w.heap.size, 0, none⟩ = some (.string s)
  c1 : W.cell? ⟨w.heap.size, 1, none⟩ = some (.int .i64 (k : Nat))
  sz : w.heap.size < W.heap.size
  b : Below w.heap.size w W
theorem St.step {w W V : World} {s : ByteArray} {k : Nat} (h : St w s k W) (b : Below W.heap.size W V) : St w s k V :=
  ⟨(b.cell (p := ⟨w.heap.size, 0, none⟩) h.sz).trans h.c0, (b.cell (p := ⟨w.heap.size, 1, none⟩) h.sz).trans h.c1, Nat.lt_of_lt_of_le h.sz b.size, h.b.trans (b.mono (Nat.le_of_lt h.sz))⟩
theorem St.S {w W : World} {s : ByteArray} {k : Nat} (h : St w s k W) : W.cell? ⟨w.heap.size, 0, none⟩ = some (.string s) ∧ W.cell? ⟨w.heap.size, 1, none⟩ = some (.int .i64 (k : Nat)) := ⟨h.c0, h.c1⟩
/-- A block of fourteen cells that the call made. -/
def Zero (w W : World) (g : Nat) : Prop := W.there g 0 14 ∧ w.heap.size ≤ g ∧ g < W.heap.size
theorem Zero.step {w W V : World} {g : Nat} (h : Zero w W g) (b : Below W.heap.size W V) : Zero w V g :=
  ⟨fun j hj => ⟨by rw [b.cell (p := ⟨g, 0 + j, none⟩) h.2.2]; exact (h.1 j hj).1, by rw [b.frozen (p := ⟨g, 0 + j, none⟩) h.2.2]; exact (h.1 j hj).2⟩, h.2.1, Nat.lt_of_lt_of_le h.2.2 b.size⟩
theorem zero_new {w W : World} {s : ByteArray} {k : Nat} (h : St w s k W) (cs : Array Value) (T : TypeId) (hc : cs.size = 14) : Zero w (W.alloc (.cells cs T)) W.heap.size :=
  ⟨fun j hj => ⟨by
    rw [World.cell?, heap_alloc_new]
    simp [hc, hj], by simp [go_sem]⟩, Nat.le_of_lt h.sz, by simp⟩
theorem Zero.some {w W : World} {g : Nat} (h : Zero w W g) : ∀ j, j < 14 → ∃ u, W.cell? ⟨g, j, none⟩ = some u := fun j hj => by
  have := (h.1 j hj).1
  rw [Nat.zero_add] at this
  exact Option.isSome_iff_exists.1 this

set_option maxRecDepth 100000 in
set_option maxHeartbeats 16000000 in
theorem words_core (s : ByteArray) (k : Nat) (w : World) (hs : Small s) (hk : k ≤ s.size) :
    Calls Try.prog 7 #[.agg #[.string s, .int .i64 (k : Nat)]] w fun e w' => e = .returned (.bool true) ∧ Below w.heap.size w w' := by
  have T1 := fun w => tell_impl s k w hs hk
  have T2 := fun w => tell_spec s k w hs hk
  generalize s.extract 0 k = X at T1 T2
  generalize X.extract _ k = WB at T1 T2
  generalize X.extract _ k = SB at T1 T2
  generalize ByteArray.extract _ 0 _ = WA at T1 T2
  generalize ByteArray.extract _ 0 _ = SA at T1 T2
  have H1 := Go.Lib.hid T1
  have H2 := Go.Lib.hid T2
  clear T1 T2
  have hR : Right s (k : Int) := ⟨hs, by omega, by omega⟩
  have HR := Go.Lib.hid hR
  have hsz := hs.2
  clear hR hs
  go_enter Try.func7, Try.ntmps7
  go_wp2_with fail
  refine (fits2_yes s _ _ (by omega)).mono ?_
  rintro e w1 ⟨rfl, rfl⟩
  go_wp2_with fail
  refine (right_yes s _ _ HR.out).mono ?_
  rintro e w1 ⟨rfl, rfl⟩
  go_upto_region 5 with fail
  go_cut [3, 4] from 11 to 15 (fun v3 v4 wx => ∃ g3 g4 : Nat, v3 = .pointer (some ⟨g3, 0, none⟩) ∧ v4 = .pointer (some ⟨g4, 0, none⟩) ∧ Hid (Both X WB WA SB SA w g3 g4 wx))
  case first =>
    have HB : Hid (St w s k (((w.alloc (.cells #[.string s, .int .i64 (k : Nat)] 23)).alloc (.cells #[.string s, .int .i64 (k : Nat)] 23)).alloc (.cells #[.string s, .int .i64 (k : Nat)] 23)).drew) := ⟨by simp [go_sem], by simp [go_sem], by simp <;> omega, ((((Below.refl w.heap.size w).alloc (Nat.le_refl _) _).alloc (by simp) _).alloc (by simp; omega) _).drew⟩
    refine region_held_tail 6 (S := fun w' => w'.cell? ⟨w.heap.size, 0, none⟩ = some (.string s) ∧ w'.cell? ⟨w.heap.size, 1, none⟩ = some (.int .i64 (k : Nat))) (by kernel_rfl) (by kernel_rfl) ?_ (fun hHeld => ?_)
    · (try dsimp only); exact HB.out.S
    refine HeldT.take (i := 0) (v := ?_) (by simp only [List.getElem?_toArray, List.getElem?_cons_succ, List.getElem?_cons_zero]; rfl) (by kernel_rfl) (by kernel_rfl) (by kernel_rfl) (by kernel_rfl) (by exact fun _ _ _ h => h) ?_ (by assumption) ?_
    rotate_left
    · refine Or.inl ⟨by rfl, ?_⟩
      (intro w hSw; (try dsimp only at hSw); go_simp; try with_reducible rfl)
    try simp only [Act.put, List.setIfInBounds_toArray, List.set_cons_zero, List.set_cons_succ]
    refine HeldT.take (i := 2) (v := ?_) (by simp only [List.getElem?_toArray, List.getElem?_cons_succ, List.getElem?_cons_zero]; rfl) (by kernel_rfl) (by kernel_rfl) (by kernel_rfl) (by kernel_rfl) (by exact fun _ _ _ h => h) ?_ (by assumption) ?_
    rotate_left
    · refine Or.inl ⟨by rfl, ?_⟩
      (intro w hSw; (try dsimp only at hSw); go_simp; try with_reducible rfl)
    try simp only [Act.put, List.setIfInBounds_toArray, List.set_cons_zero, List.set_cons_succ]
    generalize (((w.alloc (.cells #[.string s, .int .i64 (k : Nat)] 23)).alloc (.cells #[.string s, .int .i64 (k : Nat)] 23)).alloc (.cells #[.string s, .int .i64 (k : Nat)] 23)).drew = W0 at HB ⊢
    clear hHeld
    refine HeldT.three (i := 1) (k := 4) (l := 5) (by simp only [List.getElem?_toArray, List.getElem?_cons_succ, List.getElem?_cons_zero]; rfl) (by simp only [List.getElem?_toArray, List.getElem?_cons_succ, List.getElem?_cons_zero]; rfl) (by simp only [List.getElem?_toArray, List.getElem?_cons_succ, List.getElem?_cons_zero]; rfl) (by kernel_rfl) (by kernel_rfl) (by kernel_rfl) (by kernel_rfl) (fun K hK => ?qx1) (fun K hK => ?qx4) (fun K hK => ?qx5)
    case' qx1 =>
      go_simp
      refine (H1.out _).mono ?_
      rintro e W1 ⟨Yi, lbi, lai, li, ri, ci, tei, gi, ni, capi, bbi, rfl, b1⟩
      have HB := Go.Lib.hid (HB.out.step b1)
      clear b1
      try go_wp2_with fail
      refine hK.out _ _ ?_ (fun hHeld => ?_)
      · (try dsimp only); exact HB.out.S
      clear hHeld hK K
      try simp only [Act.put, List.setIfInBounds_toArray, List.set_cons_zero, List.set_cons_succ]
      refine HeldT.three (i := 3) (k := 4) (l := 5) (by simp only [List.getElem?_toArray, List.getElem?_cons_succ, List.getElem?_cons_zero]; rfl) (by simp only [List.getElem?_toArray, List.getElem?_cons_succ, List.getElem?_cons_zero]; rfl) (by simp only [List.getElem?_toArray, List.getElem?_cons_succ, List.getElem?_cons_zero]; rfl) (by kernel_rfl) (by kernel_rfl) (by kernel_rfl) (by kernel_rfl) (fun K hK => ?q1x3) (fun K hK => ?q1x4) (fun K hK => ?q1x5)
      case' q1x3 =>
        go_simp
        refine (H2.out _).mono ?_
        rintro e W2 ⟨Ys, lbs, las, ls, rs, cs, tes, gs, ns, caps, bbs, rfl, b1⟩
        have HB := Go.Lib.hid (HB.out.step b1)
        clear b1
        try go_wp2_with fail
        refine hK.out _ _ ?_ (fun hHeld => ?_)
        · (try dsimp only); exact HB.out.S
        clear hHeld hK K
        try simp only [Act.put, List.setIfInBounds_toArray, List.set_cons_zero, List.set_cons_succ]
        refine HeldT.two (i := 4) (k := 5) (by simp only [List.getElem?_toArray, List.getElem?_cons_succ, List.getElem?_cons_zero]; rfl) (by simp only [List.getElem?_toArray, List.getElem?_cons_succ, List.getElem?_cons_zero]; rfl) (by kernel_rfl) (by kernel_rfl) (by kernel_rfl) (fun K hK => ?q13x4) (fun K hK => ?q13x5)
        case' q13x4 =>
          go_simp
          obtain ⟨g3, hg3⟩ : ∃ g, g = W2.heap.size := ⟨_, rfl⟩
          have Z3 : Hid (Zero w (W2.alloc (.cells #[.string ⟨#[]⟩, .string ⟨#[]⟩, .string ⟨#[]⟩, .string ⟨#[]⟩, .string ⟨#[]⟩, .int .i64 0, .int .i64 0, .slice none 0 0, .bool false, .int .i64 0, .string ⟨#[]⟩, .string ⟨#[]⟩, .string ⟨#[]⟩, .string ⟨#[]⟩] 36)) W2.heap.size) := zero_new HB.out _ _ rfl
          rw [← hg3] at Z3
          have HB := Go.Lib.hid (HB.out.step ((Below.refl W2.heap.size W2).alloc (Nat.le_refl _) (.cells #[.string ⟨#[]⟩, .string ⟨#[]⟩, .string ⟨#[]⟩, .string ⟨#[]⟩, .string ⟨#[]⟩, .int .i64 0, .int .i64 0, .slice none 0 0, .bool false, .int .i64 0, .string ⟨#[]⟩, .string ⟨#[]⟩, .string ⟨#[]⟩, .string ⟨#[]⟩] 36)))
          refine hK.out _ _ ?_ (fun hHeld => ?_)
          · (try dsimp only); exact HB.out.S
          clear hHeld hK K
          try simp only [Act.put, List.setIfInBounds_toArray, List.set_cons_zero, List.set_cons_succ]
          rw [← hg3]
          generalize W2.alloc (.cells #[.string ⟨#[]⟩, .string ⟨#[]⟩, .string ⟨#[]⟩, .string ⟨#[]⟩, .string ⟨#[]⟩, .int .i64 0, .int .i64 0, .slice none 0 0, .bool false, .int .i64 0, .string ⟨#[]⟩, .string ⟨#[]⟩, .string ⟨#[]⟩, .string ⟨#[]⟩] 36) = W3 at Z3 HB ⊢
          clear hg3
          refine HeldT.one (i := 5) (by simp only [List.getElem?_toArray, List.getElem?_cons_succ, List.getElem?_cons_zero]; rfl) (by kernel_rfl) (by kernel_rfl) (fun K hK => ?_)
          go_simp
          obtain ⟨g4, hg4⟩ : ∃ g, g = W3.heap.size := ⟨_, rfl⟩
          have Z4 : Hid (Zero w (W3.alloc (.cells #[.string ⟨#[]⟩, .string ⟨#[]⟩, .string ⟨#[]⟩, .string ⟨#[]⟩, .string ⟨#[]⟩, .int .i64 0, .int .i64 0, .slice none 0 0, .bool false, .int .i64 0, .string ⟨#[]⟩, .string ⟨#[]⟩, .string ⟨#[]⟩, .string ⟨#[]⟩] 36)) W3.heap.size) := zero_new HB.out _ _ rfl
          rw [← hg4] at Z4
          have HNE : Hid (g3 ≠ g4) := by have := Z3.out.2.2; show g3 ≠ g4; omega
          have Z3 := Go.Lib.hid (Z3.out.step ((Below.refl W3.heap.size W3).alloc (Nat.le_refl _) (.cells #[.string ⟨#[]⟩, .string ⟨#[]⟩, .string ⟨#[]⟩, .string ⟨#[]⟩, .string ⟨#[]⟩, .int .i64 0, .int .i64 0, .slice none 0 0, .bool false, .int .i64 0, .string ⟨#[]⟩, .string ⟨#[]⟩, .string ⟨#[]⟩, .string ⟨#[]⟩] 36)))
          have HB := Go.Lib.hid (HB.out.step ((Below.refl W3.heap.size W3).alloc (Nat.le_refl _) (.cells #[.string ⟨#[]⟩, .string ⟨#[]⟩, .string ⟨#[]⟩, .string ⟨#[]⟩, .string ⟨#[]⟩, .int .i64 0, .int .i64 0, .slice none 0 0, .bool false, .int .i64 0, .string ⟨#[]⟩, .string ⟨#[]⟩, .string ⟨#[]⟩, .string ⟨#[]⟩] 36)))
          refine hK.out _ _ ?_ (fun hHeld => ?_)
          · (try dsimp only); exact HB.out.S
          clear hHeld hK K
          try simp only [Act.put, List.setIfInBounds_toArray, List.set_cons_zero, List.set_cons_succ]
          rw [← hg4]
          generalize W3.alloc (.cells #[.string ⟨#[]⟩, .string ⟨#[]⟩, .string ⟨#[]⟩, .string ⟨#[]⟩, .string ⟨#[]⟩, .int .i64 0, .int .i64 0, .slice none 0 0, .bool false, .int .i64 0, .string ⟨#[]⟩, .string ⟨#[]⟩, .string ⟨#[]⟩, .string ⟨#[]⟩] 36) = W4 at Z4 Z3 HB ⊢
          clear hg4
        case' q13x5 =>
          go_simp
          obtain ⟨g4, hg4⟩ : ∃ g, g = W2.heap.size := ⟨_, rfl⟩
          have Z4 : Hid (Zero w (W2.alloc (.cells #[.string ⟨#[]⟩, .string ⟨#[]⟩, .string ⟨#[]⟩, .string ⟨#[]⟩, .string ⟨#[]⟩, .int .i64 0, .int .i64 0, .slice none 0 0, .bool false, .int .i64 0, .string ⟨#[]⟩, .string ⟨#[]⟩, .string ⟨#[]⟩, .string ⟨#[]⟩] 36)) W2.heap.size) := zero_new HB.out _ _ rfl
          rw [← hg4] at Z4
          have HB := Go.Lib.hid (HB.out.step ((Below.refl W2.heap.size W2).alloc (Nat.le_refl _) (.cells #[.string ⟨#[]⟩, .string ⟨#[]⟩, .string ⟨#[]⟩, .string ⟨#[]⟩, .string ⟨#[]⟩, .int .i64 0, .int .i64 0, .slice none 0 0, .bool false, .int .i64 0, .string ⟨#[]⟩, .string ⟨#[]⟩, .string ⟨#[]⟩, .string ⟨#[]⟩] 36)))
          refine hK.out _ _ ?_ (fun hHeld => ?_)
          · (try dsimp only); exact HB.out.S
          clear hHeld hK K
          try simp only [Act.put, List.setIfInBounds_toArray, List.set_cons_zero, List.set_cons_succ]
          rw [← hg4]
          generalize W2.alloc (.cells #[.string ⟨#[]⟩, .string ⟨#[]⟩, .string ⟨#[]⟩, .string ⟨#[]⟩, .string ⟨#[]⟩, .int .i64 0, .int .i64 0, .slice none 0 0, .bool false, .int .i64 0, .string ⟨#[]⟩, .string ⟨#[]⟩, .string ⟨#[]⟩, .string ⟨#[]⟩] 36) = W3 at Z4 HB ⊢
          clear hg4
          refine HeldT.one (i := 4) (by simp only [List.getElem?_toArray, List.getElem?_cons_succ, List.getElem?_cons_zero]; rfl) (by kernel_rfl) (by kernel_rfl) (fun K hK => ?_)
          go_simp
          obtain ⟨g3, hg3⟩ : ∃ g, g = W3.heap.size := ⟨_, rfl⟩
          have Z3 : Hid (Zero w (W3.alloc (.cells #[.string ⟨#[]⟩, .string ⟨#[]⟩, .string ⟨#[]⟩, .string ⟨#[]⟩, .string ⟨#[]⟩, .int .i64 0, .int .i64 0, .slice none 0 0, .bool false, .int .i64 0, .string ⟨#[]⟩, .string ⟨#[]⟩, .string ⟨#[]⟩, .string ⟨#[]⟩] 36)) W3.heap.size) := zero_new HB.out _ _ rfl
          rw [← hg3] at Z3
          have HNE : Hid (g3 ≠ g4) := by have := Z4.out.2.2; show g3 ≠ g4; omega
          have Z4 := Go.Lib.hid (Z4.out.step ((Below.refl W3.heap.size W3).alloc (Nat.le_refl _) (.cells #[.string ⟨#[]⟩, .string ⟨#[]⟩, .string ⟨#[]⟩, .string ⟨#[]⟩, .string ⟨#[]⟩, .int .i64 0, .int .i64 0, .slice none 0 0, .bool false, .int .i64 0, .string ⟨#[]⟩, .string ⟨#[]⟩, .string ⟨#[]⟩, .string ⟨#[]⟩] 36)))
          have HB := Go.Lib.hid (HB.out.step ((Below.refl W3.heap.size W3).alloc (Nat.le_refl _) (.cells #[.string ⟨#[]⟩, .string ⟨#[]⟩, .string ⟨#[]⟩, .string ⟨#[]⟩, .string ⟨#[]⟩, .int .i64 0, .int .i64 0, .slice none 0 0, .bool false, .int .i64 0, .string ⟨#[]⟩, .string ⟨#[]⟩, .string ⟨#[]⟩, .string ⟨#[]⟩] 36)))
          refine hK.out _ _ ?_ (fun hHeld => ?_)
          · (try dsimp only); exact HB.out.S
          clear hHeld hK K
          try simp only [Act.put, List.setIfInBounds_toArray, List.set_cons_zero, List.set_cons_succ]
          rw [← hg3]
          generalize W3.alloc (.cells #[.string ⟨#[]⟩, .string ⟨#[]⟩, .string ⟨#[]⟩, .string ⟨#[]⟩, .string ⟨#[]⟩, .int .i64 0, .int .i64 0, .slice none 0 0, .bool false, .int .i64 0, .string ⟨#[]⟩, .string ⟨#[]⟩, .string ⟨#[]⟩, .string ⟨#[]⟩] 36) = W4 at Z3 Z4 HB ⊢
          clear hg3
      case' q1x4 =>
        go_simp
        obtain ⟨g3, hg3⟩ : ∃ g, g = W1.heap.size := ⟨_, rfl⟩
        have Z3 : Hid (Zero w (W1.alloc (.cells #[.string ⟨#[]⟩, .string ⟨#[]⟩, .string ⟨#[]⟩, .string ⟨#[]⟩, .string ⟨#[]⟩, .int .i64 0, .int .i64 0, .slice none 0 0, .bool false, .int .i64 0, .string ⟨#[]⟩, .string ⟨#[]⟩, .string ⟨#[]⟩, .string ⟨#[]⟩] 36)) W1.heap.size) := zero_new HB.out _ _ rfl
        rw [← hg3] at Z3
        have HB := Go.Lib.hid (HB.out.step ((Below.refl W1.heap.size W1).alloc (Nat.le_refl _) (.cells #[.string ⟨#[]⟩, .string ⟨#[]⟩, .string ⟨#[]⟩, .string ⟨#[]⟩, .string ⟨#[]⟩, .int .i64 0, .int .i64 0, .slice none 0 0, .bool false, .int .i64 0, .string ⟨#[]⟩, .string ⟨#[]⟩, .string ⟨#[]⟩, .string ⟨#[]⟩] 36)))
        refine hK.out _ _ ?_ (fun hHeld => ?_)
        · (try dsimp only); exact HB.out.S
        clear hHeld hK K
        try simp only [Act.put, List.setIfInBounds_toArray, List.set_cons_zero, List.set_cons_succ]
        rw [← hg3]
        generalize W1.alloc (.cells #[.string ⟨#[]⟩, .string ⟨#[]⟩, .string ⟨#[]⟩, .string ⟨#[]⟩, .string ⟨#[]⟩, .int .i64 0, .int .i64 0, .slice none 0 0, .bool false, .int .i64 0, .string ⟨#[]⟩, .string ⟨#[]⟩, .string ⟨#[]⟩, .string ⟨#[]⟩] 36) = W2 at Z3 HB ⊢
        clear hg3
        refine HeldT.two (i := 3) (k := 5) (by simp only [List.getElem?_toArray, List.getElem?_cons_succ, List.getElem?_cons_zero]; rfl) (by simp only [List.getElem?_toArray, List.getElem?_cons_succ, List.getElem?_cons_zero]; rfl) (by kernel_rfl) (by kernel_rfl) (by kernel_rfl) (fun K hK => ?q14x3) (fun K hK => ?q14x5)
        case' q14x3 =>
          go_simp
          refine (H2.out _).mono ?_
          rintro e W3 ⟨Ys, lbs, las, ls, rs, cs, tes, gs, ns, caps, bbs, rfl, b1⟩
          have Z3 := Go.Lib.hid (Z3.out.step b1)
          have HB := Go.Lib.hid (HB.out.step b1)
          clear b1
          try go_wp2_with fail
          refine hK.out _ _ ?_ (fun hHeld => ?_)
          · (try dsimp only); exact HB.out.S
          clear hHeld hK K
          try simp only [Act.put, List.setIfInBounds_toArray, List.set_cons_zero, List.set_cons_succ]
          refine HeldT.one (i := 5) (by simp only [List.getElem?_toArray, List.getElem?_cons_succ, List.getElem?_cons_zero]; rfl) (by kernel_rfl) (by kernel_rfl) (fun K hK => ?_)
          go_simp
          obtain ⟨g4, hg4⟩ : ∃ g, g = W3.heap.size := ⟨_, rfl⟩
          have Z4 : Hid (Zero w (W3.alloc (.cells #[.string ⟨#[]⟩, .string ⟨#[]⟩, .string ⟨#[]⟩, .string ⟨#[]⟩, .string ⟨#[]⟩, .int .i64 0, .int .i64 0, .slice none 0 0, .bool false, .int .i64 0, .string ⟨#[]⟩, .string ⟨#[]⟩, .string ⟨#[]⟩, .string ⟨#[]⟩] 36)) W3.heap.size) := zero_new HB.out _ _ rfl
          rw [← hg4] at Z4
          have HNE : Hid (g3 ≠ g4) := by have := Z3.out.2.2; show g3 ≠ g4; omega
          have Z3 := Go.Lib.hid (Z3.out.step ((Below.refl W3.heap.size W3).alloc (Nat.le_refl _) (.cells #[.string ⟨#[]⟩, .string ⟨#[]⟩, .string ⟨#[]⟩, .string ⟨#[]⟩, .string ⟨#[]⟩, .int .i64 0, .int .i64 0, .slice none 0 0, .bool false, .int .i64 0, .string ⟨#[]⟩, .string ⟨#[]⟩, .string ⟨#[]⟩, .string ⟨#[]⟩] 36)))
          have HB := Go.Lib.hid (HB.out.step ((Below.refl W3.heap.size W3).alloc (Nat.le_refl _) (.cells #[.string ⟨#[]⟩, .string ⟨#[]⟩, .string ⟨#[]⟩, .string ⟨#[]⟩, .string ⟨#[]⟩, .int .i64 0, .int .i64 0, .slice none 0 0, .bool false, .int .i64 0, .string ⟨#[]⟩, .string ⟨#[]⟩, .string ⟨#[]⟩, .string ⟨#[]⟩] 36)))
          refine hK.out _ _ ?_ (fun hHeld => ?_)
          · (try dsimp only); exact HB.out.S
          clear hHeld hK K
          try simp only [Act.put, List.setIfInBounds_toArray, List.set_cons_zero, List.set_cons_succ]
          rw [← hg4]
          generalize W3.alloc (.cells #[.string ⟨#[]⟩, .string ⟨#[]⟩, .string ⟨#[]⟩, .string ⟨#[]⟩, .string ⟨#[]⟩, .int .i64 0, .int .i64 0, .slice none 0 0, .bool false, .int .i64 0, .string ⟨#[]⟩, .string ⟨#[]⟩, .string ⟨#[]⟩, .string ⟨#[]⟩] 36) = W4 at Z4 Z3 HB ⊢
          clear hg4
        case' q14x5 =>
          go_simp
          obtain ⟨g4, hg4⟩ : ∃ g, g = W2.heap.size := ⟨_, rfl⟩
          have Z4 : Hid (Zero w (W2.alloc (.cells #[.string ⟨#[]⟩, .string ⟨#[]⟩, .string ⟨#[]⟩, .string ⟨#[]⟩, .string ⟨#[]⟩, .int .i64 0, .int .i64 0, .slice none 0 0, .bool false, .int .i64 0, .string ⟨#[]⟩, .string ⟨#[]⟩, .string ⟨#[]⟩, .string ⟨#[]⟩] 36)) W2.heap.size) := zero_new HB.out _ _ rfl
          rw [← hg4] at Z4
          have HNE : Hid (g3 ≠ g4) := by have := Z3.out.2.2; show g3 ≠ g4; omega
          have Z3 := Go.Lib.hid (Z3.out.step ((Below.refl W2.heap.size W2).alloc (Nat.le_refl _) (.cells #[.string ⟨#[]⟩, .string ⟨#[]⟩, .string ⟨#[]⟩, .string ⟨#[]⟩, .string ⟨#[]⟩, .int .i64 0, .int .i64 0, .slice none 0 0, .bool false, .int .i64 0, .string ⟨#[]⟩, .string ⟨#[]⟩, .string ⟨#[]⟩, .string ⟨#[]⟩] 36)))
          have HB := Go.Lib.hid (HB.out.step ((Below.refl W2.heap.size W2).alloc (Nat.le_refl _) (.cells #[.string ⟨#[]⟩, .string ⟨#[]⟩, .string ⟨#[]⟩, .string ⟨#[]⟩, .string ⟨#[]⟩, .int .i64 0, .int .i64 0, .slice none 0 0, .bool false, .int .i64 0, .string ⟨#[]⟩, .string ⟨#[]⟩, .string ⟨#[]⟩, .string ⟨#[]⟩] 36)))
          refine hK.out _ _ ?_ (fun hHeld => ?_)
          · (try dsimp only); exact HB.out.S
          clear hHeld hK K
          try simp only [Act.put, List.setIfInBounds_toArray, List.set_cons_zero, List.set_cons_succ]
          rw [← hg4]
          generalize W2.alloc (.cells #[.string ⟨#[]⟩, .string ⟨#[]⟩, .string ⟨#[]⟩, .string ⟨#[]⟩, .string ⟨#[]⟩, .int .i64 0, .int .i64 0, .slice none 0 0, .bool false, .int .i64 0, .string ⟨#[]⟩, .string ⟨#[]⟩, .string ⟨#[]⟩, .string ⟨#[]⟩] 36) = W3 at Z4 Z3 HB ⊢
          clear hg4
          refine HeldT.one (i := 3) (by simp only [List.getElem?_toArray, List.getElem?_cons_succ, List.getElem?_cons_zero]; rfl) (by kernel_rfl) (by kernel_rfl) (fun K hK => ?_)
          go_simp
          refine (H2.out _).mono ?_
          rintro e W4 ⟨Ys, lbs, las, ls, rs, cs, tes, gs, ns, caps, bbs, rfl, b1⟩
          have Z3 := Go.Lib.hid (Z3.out.step b1)
          have Z4 := Go.Lib.hid (Z4.out.step b1)
          have HB := Go.Lib.hid (HB.out.step b1)
          clear b1
          try go_wp2_with fail
          refine hK.out _ _ ?_ (fun hHeld => ?_)
          · (try dsimp only); exact HB.out.S
          clear hHeld hK K
          try simp only [Act.put, List.setIfInBounds_toArray, List.set_cons_zero, List.set_cons_succ]
      case' q1x5 =>
        go_simp
        obtain ⟨g4, hg4⟩ : ∃ g, g = W1.heap.size := ⟨_, rfl⟩
        have Z4 : Hid (Zero w (W1.alloc (.cells #[.string ⟨#[]⟩, .string ⟨#[]⟩, .string ⟨#[]⟩, .string ⟨#[]⟩, .string ⟨#[]⟩, .int .i64 0, .int .i64 0, .slice none 0 0, .bool false, .int .i64 0, .string ⟨#[]⟩, .string ⟨#[]⟩, .string ⟨#[]⟩, .string ⟨#[]⟩] 36)) W1.heap.size) := zero_new HB.out _ _ rfl
        rw [← hg4] at Z4
        have HB := Go.Lib.hid (HB.out.step ((Below.refl W1.heap.size W1).alloc (Nat.le_refl _) (.cells #[.string ⟨#[]⟩, .string ⟨#[]⟩, .string ⟨#[]⟩, .string ⟨#[]⟩, .string ⟨#[]⟩, .int .i64 0, .int .i64 0, .slice none 0 0, .bool false, .int .i64 0, .string ⟨#[]⟩, .string ⟨#[]⟩, .string ⟨#[]⟩, .string ⟨#[]⟩] 36)))
        refine hK.out _ _ ?_ (fun hHeld => ?_)
        · (try dsimp only); exact HB.out.S
        clear hHeld hK K
        try simp only [Act.put, List.setIfInBounds_toArray, List.set_cons_zero, List.set_cons_succ]
        rw [← hg4]
        generalize W1.alloc (.cells #[.string ⟨#[]⟩, .string ⟨#[]⟩, .string ⟨#[]⟩, .string ⟨#[]⟩, .string ⟨#[]⟩, .int .i64 0, .int .i64 0, .slice none 0 0, .bool false, .int .i64 0, .string ⟨#[]⟩, .string ⟨#[]⟩, .string ⟨#[]⟩, .string ⟨#[]⟩] 36) = W2 at Z4 HB ⊢
        clear hg4
        refine HeldT.two (i := 3) (k := 4) (by simp only [List.getElem?_toArray, List.getElem?_cons_succ, List.getElem?_cons_zero]; rfl) (by simp only [List.getElem?_toArray, List.getElem?_cons_succ, List.getElem?_cons_zero]; rfl) (by kernel_rfl) (by kernel_rfl) (by kernel_rfl) (fun K hK => ?q15x3) (fun K hK => ?q15x4)
        case' q15x3 =>
          go_simp
          refine (H2.out _).mono ?_
          rintro e W3 ⟨Ys, lbs, las, ls, rs, cs, tes, gs, ns, caps, bbs, rfl, b1⟩
          have Z4 := Go.Lib.hid (Z4.out.step b1)
          have HB := Go.Lib.hid (HB.out.step b1)
          clear b1
          try go_wp2_with fail
          refine hK.out _ _ ?_ (fun hHeld => ?_)
          · (try dsimp only); exact HB.out.S
          clear hHeld hK K
          try simp only [Act.put, List.setIfInBounds_toArray, List.set_cons_zero, List.set_cons_succ]
          refine HeldT.one (i := 4) (by simp only [List.getElem?_toArray, List.getElem?_cons_succ, List.getElem?_cons_zero]; rfl) (by kernel_rfl) (by kernel_rfl) (fun K hK => ?_)
          go_simp
          obtain ⟨g3, hg3⟩ : ∃ g, g = W3.heap.size := ⟨_, rfl⟩
          have Z3 : Hid (Zero w (W3.alloc (.cells #[.string ⟨#[]⟩, .string ⟨#[]⟩, .string ⟨#[]⟩, .string ⟨#[]⟩, .string ⟨#[]⟩, .int .i64 0, .int .i64 0, .slice none 0 0, .bool false, .int .i64 0, .string ⟨#[]⟩, .string ⟨#[]⟩, .string ⟨#[]⟩, .string ⟨#[]⟩] 36)) W3.heap.size) := zero_new HB.out _ _ rfl
          rw [← hg3] at Z3
          have HNE : Hid (g3 ≠ g4) := by have := Z4.out.2.2; show g3 ≠ g4; omega
          have Z4 := Go.Lib.hid (Z4.out.step ((Below.refl W3.heap.size W3).alloc (Nat.le_refl _) (.cells #[.string ⟨#[]⟩, .string ⟨#[]⟩, .string ⟨#[]⟩, .string ⟨#[]⟩, .string ⟨#[]⟩, .int .i64 0, .int .i64 0, .slice none 0 0, .bool false, .int .i64 0, .string ⟨#[]⟩, .string ⟨#[]⟩, .string ⟨#[]⟩, .string ⟨#[]⟩] 36)))
          have HB := Go.Lib.hid (HB.out.step ((Below.refl W3.heap.size W3).alloc (Nat.le_refl _) (.cells #[.string ⟨#[]⟩, .string ⟨#[]⟩, .string ⟨#[]⟩, .string ⟨#[]⟩, .string ⟨#[]⟩, .int .i64 0, .int .i64 0, .slice none 0 0, .bool false, .int .i64 0, .string ⟨#[]⟩, .string ⟨#[]⟩, .string ⟨#[]⟩, .string ⟨#[]⟩] 36)))
          refine hK.out _ _ ?_ (fun hHeld => ?_)
          · (try dsimp only); exact HB.out.S
          clear hHeld hK K
          try simp only [Act.put, List.setIfInBounds_toArray, List.set_cons_zero, List.set_cons_succ]
          rw [← hg3]
          generalize W3.alloc (.cells #[.string ⟨#[]⟩, .string ⟨#[]⟩, .string ⟨#[]⟩, .string ⟨#[]⟩, .string ⟨#[]⟩, .int .i64 0, .int .i64 0, .slice none 0 0, .bool false, .int .i64 0, .string ⟨#[]⟩, .string ⟨#[]⟩, .string ⟨#[]⟩, .string ⟨#[]⟩] 36) = W4 at Z3 Z4 HB ⊢
          clear hg3
        case' q15x4 =>
          go_simp
          obtain ⟨g3, hg3⟩ : ∃ g, g = W2.heap.size := ⟨_, rfl⟩
          have Z3 : Hid (Zero w (W2.alloc (.cells #[.string ⟨#[]⟩, .string ⟨#[]⟩, .string ⟨#[]⟩, .string ⟨#[]⟩, .string ⟨#[]⟩, .int .i64 0, .int .i64 0, .slice none 0 0, .bool false, .int .i64 0, .string ⟨#[]⟩, .string ⟨#[]⟩, .string ⟨#[]⟩, .string ⟨#[]⟩] 36)) W2.heap.size) := zero_new HB.out _ _ rfl
          rw [← hg3] at Z3
          have HNE : Hid (g3 ≠ g4) := by have := Z4.out.2.2; show g3 ≠ g4; omega
          have Z4 := Go.Lib.hid (Z4.out.step ((Below.refl W2.heap.size W2).alloc (Nat.le_refl _) (.cells #[.string ⟨#[]⟩, .string ⟨#[]⟩, .string ⟨#[]⟩, .string ⟨#[]⟩, .string ⟨#[]⟩, .int .i64 0, .int .i64 0, .slice none 0 0, .bool false, .int .i64 0, .string ⟨#[]⟩, .string ⟨#[]⟩, .string ⟨#[]⟩, .string ⟨#[]⟩] 36)))
          have HB := Go.Lib.hid (HB.out.step ((Below.refl W2.heap.size W2).alloc (Nat.le_refl _) (.cells #[.string ⟨#[]⟩, .string ⟨#[]⟩, .string ⟨#[]⟩, .string ⟨#[]⟩, .string ⟨#[]⟩, .int .i64 0, .int .i64 0, .slice none 0 0, .bool false, .int .i64 0, .string ⟨#[]⟩, .string ⟨#[]⟩, .string ⟨#[]⟩, .string ⟨#[]⟩] 36)))
          refine hK.out _ _ ?_ (fun hHeld => ?_)
          · (try dsimp only); exact HB.out.S
          clear hHeld hK K
          try simp only [Act.put, List.setIfInBounds_toArray, List.set_cons_zero, List.set_cons_succ]
          rw [← hg3]
          generalize W2.alloc (.cells #[.string ⟨#[]⟩, .string ⟨#[]⟩, .string ⟨#[]⟩, .string ⟨#[]⟩, .string ⟨#[]⟩, .int .i64 0, .int .i64 0, .slice none 0 0, .bool false, .int .i64 0, .string ⟨#[]⟩, .string ⟨#[]⟩, .string ⟨#[]⟩, .string ⟨#[]⟩] 36) = W3 at Z3 Z4 HB ⊢
          clear hg3
          refine HeldT.one (i := 3) (by simp only [List.getElem?_toArray, List.getElem?_cons_succ, List.getElem?_cons_zero]; rfl) (by kernel_rfl) (by kernel_rfl) (fun K hK => ?_)
          go_simp
          refine (H2.out _).mono ?_
          rintro e W4 ⟨Ys, lbs, las, ls, rs, cs, tes, gs, ns, caps, bbs, rfl, b1⟩
          have Z3 := Go.Lib.hid (Z3.out.step b1)
          have Z4 := Go.Lib.hid (Z4.out.step b1)
          have HB := Go.Lib.hid (HB.out.step b1)
          clear b1
          try go_wp2_with fail
          refine hK.out _ _ ?_ (fun hHeld => ?_)
          · (try dsimp only); exact HB.out.S
          clear hHeld hK K
          try simp only [Act.put, List.setIfInBounds_toArray, List.set_cons_zero, List.set_cons_succ]
    case' qx4 =>
      go_simp
      obtain ⟨g3, hg3⟩ : ∃ g, g = W0.heap.size := ⟨_, rfl⟩
      have Z3 : Hid (Zero w (W0.alloc (.cells #[.string ⟨#[]⟩, .string ⟨#[]⟩, .string ⟨#[]⟩, .string ⟨#[]⟩, .string ⟨#[]⟩, .int .i64 0, .int .i64 0, .slice none 0 0, .bool false, .int .i64 0, .string ⟨#[]⟩, .string ⟨#[]⟩, .string ⟨#[]⟩, .string ⟨#[]⟩] 36)) W0.heap.size) := zero_new HB.out _ _ rfl
      rw [← hg3] at Z3
      have HB := Go.Lib.hid (HB.out.step ((Below.refl W0.heap.size W0).alloc (Nat.le_refl _) (.cells #[.string ⟨#[]⟩, .string ⟨#[]⟩, .string ⟨#[]⟩, .string ⟨#[]⟩, .string ⟨#[]⟩, .int .i64 0, .int .i64 0, .slice none 0 0, .bool false, .int .i64 0, .string ⟨#[]⟩, .string ⟨#[]⟩, .string ⟨#[]⟩, .string ⟨#[]⟩] 36)))
      refine hK.out _ _ ?_ (fun hHeld => ?_)
      · (try dsimp only); exact HB.out.S
      clear hHeld hK K
      try simp only [Act.put, List.setIfInBounds_toArray, List.set_cons_zero, List.set_cons_succ]
      rw [← hg3]
      generalize W0.alloc (.cells #[.string ⟨#[]⟩, .string ⟨#[]⟩, .string ⟨#[]⟩, .string ⟨#[]⟩, .string ⟨#[]⟩, .int .i64 0, .int .i64 0, .slice none 0 0, .bool false, .int .i64 0, .string ⟨#[]⟩, .string ⟨#[]⟩, .string ⟨#[]⟩, .string ⟨#[]⟩] 36) = W1 at Z3 HB ⊢
      clear hg3
      refine HeldT.two (i := 1) (k := 5) (by simp only [List.getElem?_toArray, List.getElem?_cons_succ, List.getElem?_cons_zero]; rfl) (by simp only [List.getElem?_toArray, List.getElem?_cons_succ, List.getElem?_cons_zero]; rfl) (by kernel_rfl) (by kernel_rfl) (by kernel_rfl) (fun K hK => ?q4x1) (fun K hK => ?q4x5)
      case' q4x1 =>
        go_simp
        refine (H1.out _).mono ?_
        rintro e W2 ⟨Yi, lbi, lai, li, ri, ci, tei, gi, ni, capi, bbi, rfl, b1⟩
        have Z3 := Go.Lib.hid (Z3.out.step b1)
        have HB := Go.Lib.hid (HB.out.step b1)
        clear b1
        try go_wp2_with fail
        refine hK.out _ _ ?_ (fun hHeld => ?_)
        · (try dsimp only); exact HB.out.S
        clear hHeld hK K
        try simp only [Act.put, List.setIfInBounds_toArray, List.set_cons_zero, List.set_cons_succ]
        refine HeldT.two (i := 3) (k := 5) (by simp only [List.getElem?_toArray, List.getElem?_cons_succ, List.getElem?_cons_zero]; rfl) (by simp only [List.getElem?_toArray, List.getElem?_cons_succ, List.getElem?_cons_zero]; rfl) (by kernel_rfl) (by kernel_rfl) (by kernel_rfl) (fun K hK => ?q41x3) (fun K hK => ?q41x5)
        case' q41x3 =>
          go_simp
          refine (H2.out _).mono ?_
          rintro e W3 ⟨Ys, lbs, las, ls, rs, cs, tes, gs, ns, caps, bbs, rfl, b1⟩
          have Z3 := Go.Lib.hid (Z3.out.step b1)
          have HB := Go.Lib.hid (HB.out.step b1)
          clear b1
          try go_wp2_with fail
          refine hK.out _ _ ?_ (fun hHeld => ?_)
          · (try dsimp only); exact HB.out.S
          clear hHeld hK K
          try simp only [Act.put, List.setIfInBounds_toArray, List.set_cons_zero, List.set_cons_succ]
          refine HeldT.one (i := 5) (by simp only [List.getElem?_toArray, List.getElem?_cons_succ, List.getElem?_cons_zero]; rfl) (by kernel_rfl) (by kernel_rfl) (fun K hK => ?_)
          go_simp
          obtain ⟨g4, hg4⟩ : ∃ g, g = W3.heap.size := ⟨_, rfl⟩
          have Z4 : Hid (Zero w (W3.alloc (.cells #[.string ⟨#[]⟩, .string ⟨#[]⟩, .string ⟨#[]⟩, .string ⟨#[]⟩, .string ⟨#[]⟩, .int .i64 0, .int .i64 0, .slice none 0 0, .bool false, .int .i64 0, .string ⟨#[]⟩, .string ⟨#[]⟩, .string ⟨#[]⟩, .string ⟨#[]⟩] 36)) W3.heap.size) := zero_new HB.out _ _ rfl
          rw [← hg4] at Z4
          have HNE : Hid (g3 ≠ g4) := by have := Z3.out.2.2; show g3 ≠ g4; omega
          have Z3 := Go.Lib.hid (Z3.out.step ((Below.refl W3.heap.size W3).alloc (Nat.le_refl _) (.cells #[.string ⟨#[]⟩, .string ⟨#[]⟩, .string ⟨#[]⟩, .string ⟨#[]⟩, .string ⟨#[]⟩, .int .i64 0, .int .i64 0, .slice none 0 0, .bool false, .int .i64 0, .string ⟨#[]⟩, .string ⟨#[]⟩, .string ⟨#[]⟩, .string ⟨#[]⟩] 36)))
          have HB := Go.Lib.hid (HB.out.step ((Below.refl W3.heap.size W3).alloc (Nat.le_refl _) (.cells #[.string ⟨#[]⟩, .string ⟨#[]⟩, .string ⟨#[]⟩, .string ⟨#[]⟩, .string ⟨#[]⟩, .int .i64 0, .int .i64 0, .slice none 0 0, .bool false, .int .i64 0, .string ⟨#[]⟩, .string ⟨#[]⟩, .string ⟨#[]⟩, .string ⟨#[]⟩] 36)))
          refine hK.out _ _ ?_ (fun hHeld => ?_)
          · (try dsimp only); exact HB.out.S
          clear hHeld hK K
          try simp only [Act.put, List.setIfInBounds_toArray, List.set_cons_zero, List.set_cons_succ]
          rw [← hg4]
          generalize W3.alloc (.cells #[.string ⟨#[]⟩, .string ⟨#[]⟩, .string ⟨#[]⟩, .string ⟨#[]⟩, .string ⟨#[]⟩, .int .i64 0, .int .i64 0, .slice none 0 0, .bool false, .int .i64 0, .string ⟨#[]⟩, .string ⟨#[]⟩, .string ⟨#[]⟩, .string ⟨#[]⟩] 36) = W4 at Z4 Z3 HB ⊢
          clear hg4
        case' q41x5 =>
          go_simp
          obtain ⟨g4, hg4⟩ : ∃ g, g = W2.heap.size := ⟨_, rfl⟩
          have Z4 : Hid (Zero w (W2.alloc (.cells #[.string ⟨#[]⟩, .string ⟨#[]⟩, .string ⟨#[]⟩, .string ⟨#[]⟩, .string ⟨#[]⟩, .int .i64 0, .int .i64 0, .slice none 0 0, .bool false, .int .i64 0, .string ⟨#[]⟩, .string ⟨#[]⟩, .string ⟨#[]⟩, .string ⟨#[]⟩] 36)) W2.heap.size) := zero_new HB.out _ _ rfl
          rw [← hg4] at Z4
          have HNE : Hid (g3 ≠ g4) := by have := Z3.out.2.2; show g3 ≠ g4; omega
          have Z3 := Go.Lib.hid (Z3.out.step ((Below.refl W2.heap.size W2).alloc (Nat.le_refl _) (.cells #[.string ⟨#[]⟩, .string ⟨#[]⟩, .string ⟨#[]⟩, .string ⟨#[]⟩, .string ⟨#[]⟩, .int .i64 0, .int .i64 0, .slice none 0 0, .bool false, .int .i64 0, .string ⟨#[]⟩, .string ⟨#[]⟩, .string ⟨#[]⟩, .string ⟨#[]⟩] 36)))
          have HB := Go.Lib.hid (HB.out.step ((Below.refl W2.heap.size W2).alloc (Nat.le_refl _) (.cells #[.string ⟨#[]⟩, .string ⟨#[]⟩, .string ⟨#[]⟩, .string ⟨#[]⟩, .string ⟨#[]⟩, .int .i64 0, .int .i64 0, .slice none 0 0, .bool false, .int .i64 0, .string ⟨#[]⟩, .string ⟨#[]⟩, .string ⟨#[]⟩, .string ⟨#[]⟩] 36)))
          refine hK.out _ _ ?_ (fun hHeld => ?_)
          · (try dsimp only); exact HB.out.S
          clear hHeld hK K
          try simp only [Act.put, List.setIfInBounds_toArray, List.set_cons_zero, List.set_cons_succ]
          rw [← hg4]
          generalize W2.alloc (.cells #[.string ⟨#[]⟩, .string ⟨#[]⟩, .string ⟨#[]⟩, .string ⟨#[]⟩, .string ⟨#[]⟩, .int .i64 0, .int .i64 0, .slice none 0 0, .bool false, .int .i64 0, .string ⟨#[]⟩, .string ⟨#[]⟩, .string ⟨#[]⟩, .string ⟨#[]⟩] 36) = W3 at Z4 Z3 HB ⊢
          clear hg4
          refine HeldT.one (i := 3) (by simp only [List.getElem?_toArray, List.getElem?_cons_succ, List.getElem?_cons_zero]; rfl) (by kernel_rfl) (by kernel_rfl) (fun K hK => ?_)
          go_simp
          refine (H2.out _).mono ?_
          rintro e W4 ⟨Ys, lbs, las, ls, rs, cs, tes, gs, ns, caps, bbs, rfl, b1⟩
          have Z3 := Go.Lib.hid (Z3.out.step b1)
          have Z4 := Go.Lib.hid (Z4.out.step b1)
          have HB := Go.Lib.hid (HB.out.step b1)
          clear b1
          try go_wp2_with fail
          refine hK.out _ _ ?_ (fun hHeld => ?_)
          · (try dsimp only); exact HB.out.S
          clear hHeld hK K
          try simp only [Act.put, List.setIfInBounds_toArray, List.set_cons_zero, List.set_cons_succ]
      case' q4x5 =>
        go_simp
        obtain ⟨g4, hg4⟩ : ∃ g, g = W1.heap.size := ⟨_, rfl⟩
        have Z4 : Hid (Zero w (W1.alloc (.cells #[.string ⟨#[]⟩, .string ⟨#[]⟩, .string ⟨#[]⟩, .string ⟨#[]⟩, .string ⟨#[]⟩, .int .i64 0, .int .i64 0, .slice none 0 0, .bool false, .int .i64 0, .string ⟨#[]⟩, .string ⟨#[]⟩, .string ⟨#[]⟩, .string ⟨#[]⟩] 36)) W1.heap.size) := zero_new HB.out _ _ rfl
        rw [← hg4] at Z4
        have HNE : Hid (g3 ≠ g4) := by have := Z3.out.2.2; show g3 ≠ g4; omega
        have Z3 := Go.Lib.hid (Z3.out.step ((Below.refl W1.heap.size W1).alloc (Nat.le_refl _) (.cells #[.string ⟨#[]⟩, .string ⟨#[]⟩, .string ⟨#[]⟩, .string ⟨#[]⟩, .string ⟨#[]⟩, .int .i64 0, .int .i64 0, .slice none 0 0, .bool false, .int .i64 0, .string ⟨#[]⟩, .string ⟨#[]⟩, .string ⟨#[]⟩, .string ⟨#[]⟩] 36)))
        have HB := Go.Lib.hid (HB.out.step ((Below.refl W1.heap.size W1).alloc (Nat.le_refl _) (.cells #[.string ⟨#[]⟩, .string ⟨#[]⟩, .string ⟨#[]⟩, .string ⟨#[]⟩, .string ⟨#[]⟩, .int .i64 0, .int .i64 0, .slice none 0 0, .bool false, .int .i64 0, .string ⟨#[]⟩, .string ⟨#[]⟩, .string ⟨#[]⟩, .string ⟨#[]⟩] 36)))
        refine hK.out _ _ ?_ (fun hHeld => ?_)
        · (try dsimp only); exact HB.out.S
        clear hHeld hK K
        try simp only [Act.put, List.setIfInBounds_toArray, List.set_cons_zero, List.set_cons_succ]
        rw [← hg4]
        generalize W1.alloc (.cells #[.string ⟨#[]⟩, .string ⟨#[]⟩, .string ⟨#[]⟩, .string ⟨#[]⟩, .string ⟨#[]⟩, .int .i64 0, .int .i64 0, .slice none 0 0, .bool false, .int .i64 0, .string ⟨#[]⟩, .string ⟨#[]⟩, .string ⟨#[]⟩, .string ⟨#[]⟩] 36) = W2 at Z4 Z3 HB ⊢
        clear hg4
        refine HeldT.one (i := 1) (by simp only [List.getElem?_toArray, List.getElem?_cons_succ, List.getElem?_cons_zero]; rfl) (by kernel_rfl) (by kernel_rfl) (fun K hK => ?_)
        go_simp
        refine (H1.out _).mono ?_
        rintro e W3 ⟨Yi, lbi, lai, li, ri, ci, tei, gi, ni, capi, bbi, rfl, b1⟩
        have Z3 := Go.Lib.hid (Z3.out.step b1)
        have Z4 := Go.Lib.hid (Z4.out.step b1)
        have HB := Go.Lib.hid (HB.out.step b1)
        clear b1
        try go_wp2_with fail
        refine hK.out _ _ ?_ (fun hHeld => ?_)
        · (try dsimp only); exact HB.out.S
        clear hHeld hK K
        try simp only [Act.put, List.setIfInBounds_toArray, List.set_cons_zero, List.set_cons_succ]
        refine HeldT.one (i := 3) (by simp only [List.getElem?_toArray, List.getElem?_cons_succ, List.getElem?_cons_zero]; rfl) (by kernel_rfl) (by kernel_rfl) (fun K hK => ?_)
        go_simp
        refine (H2.out _).mono ?_
        rintro e W4 ⟨Ys, lbs, las, ls, rs, cs, tes, gs, ns, caps, bbs, rfl, b1⟩
        have Z3 := Go.Lib.hid (Z3.out.step b1)
        have Z4 := Go.Lib.hid (Z4.out.step b1)
        have HB := Go.Lib.hid (HB.out.step b1)
        clear b1
        try go_wp2_with fail
        refine hK.out _ _ ?_ (fun hHeld => ?_)
        · (try dsimp only); exact HB.out.S
        clear hHeld hK K
        try simp only [Act.put, List.setIfInBounds_toArray, List.set_cons_zero, List.set_cons_succ]
    case' qx5 =>
      go_simp
      obtain ⟨g4, hg4⟩ : ∃ g, g = W0.heap.size := ⟨_, rfl⟩
      have Z4 : Hid (Zero w (W0.alloc (.cells #[.string ⟨#[]⟩, .string ⟨#[]⟩, .string ⟨#[]⟩, .string ⟨#[]⟩, .string ⟨#[]⟩, .int .i64 0, .int .i64 0, .slice none 0 0, .bool false, .int .i64 0, .string ⟨#[]⟩, .string ⟨#[]⟩, .string ⟨#[]⟩, .string ⟨#[]⟩] 36)) W0.heap.size) := zero_new HB.out _ _ rfl
      rw [← hg4] at Z4
      have HB := Go.Lib.hid (HB.out.step ((Below.refl W0.heap.size W0).alloc (Nat.le_refl _) (.cells #[.string ⟨#[]⟩, .string ⟨#[]⟩, .string ⟨#[]⟩, .string ⟨#[]⟩, .string ⟨#[]⟩, .int .i64 0, .int .i64 0, .slice none 0 0, .bool false, .int .i64 0, .string ⟨#[]⟩, .string ⟨#[]⟩, .string ⟨#[]⟩, .string ⟨#[]⟩] 36)))
      refine hK.out _ _ ?_ (fun hHeld => ?_)
      · (try dsimp only); exact HB.out.S
      clear hHeld hK K
      try simp only [Act.put, List.setIfInBounds_toArray, List.set_cons_zero, List.set_cons_succ]
      rw [← hg4]
      generalize W0.alloc (.cells #[.string ⟨#[]⟩, .string ⟨#[]⟩, .string ⟨#[]⟩, .string ⟨#[]⟩, .string ⟨#[]⟩, .int .i64 0, .int .i64 0, .slice none 0 0, .bool false, .int .i64 0, .string ⟨#[]⟩, .string ⟨#[]⟩, .string ⟨#[]⟩, .string ⟨#[]⟩] 36) = W1 at Z4 HB ⊢
      clear hg4
      refine HeldT.two (i := 1) (k := 4) (by simp only [List.getElem?_toArray, List.getElem?_cons_succ, List.getElem?_cons_zero]; rfl) (by simp only [List.getElem?_toArray, List.getElem?_cons_succ, List.getElem?_cons_zero]; rfl) (by kernel_rfl) (by kernel_rfl) (by kernel_rfl) (fun K hK => ?q5x1) (fun K hK => ?q5x4)
      case' q5x1 =>
        go_simp
        refine (H1.out _).mono ?_
        rintro e W2 ⟨Yi, lbi, lai, li, ri, ci, tei, gi, ni, capi, bbi, rfl, b1⟩
        have Z4 := Go.Lib.hid (Z4.out.step b1)
        have HB := Go.Lib.hid (HB.out.step b1)
        clear b1
        try go_wp2_with fail
        refine hK.out _ _ ?_ (fun hHeld => ?_)
        · (try dsimp only); exact HB.out.S
        clear hHeld hK K
        try simp only [Act.put, List.setIfInBounds_toArray, List.set_cons_zero, List.set_cons_succ]
        refine HeldT.two (i := 3) (k := 4) (by simp only [List.getElem?_toArray, List.getElem?_cons_succ, List.getElem?_cons_zero]; rfl) (by simp only [List.getElem?_toArray, List.getElem?_cons_succ, List.getElem?_cons_zero]; rfl) (by kernel_rfl) (by kernel_rfl) (by kernel_rfl) (fun K hK => ?q51x3) (fun K hK => ?q51x4)
        case' q51x3 =>
          go_simp
          refine (H2.out _).mono ?_
          rintro e W3 ⟨Ys, lbs, las, ls, rs, cs, tes, gs, ns, caps, bbs, rfl, b1⟩
          have Z4 := Go.Lib.hid (Z4.out.step b1)
          have HB := Go.Lib.hid (HB.out.step b1)
          clear b1
          try go_wp2_with fail
          refine hK.out _ _ ?_ (fun hHeld => ?_)
          · (try dsimp only); exact HB.out.S
          clear hHeld hK K
          try simp only [Act.put, List.setIfInBounds_toArray, List.set_cons_zero, List.set_cons_succ]
          refine HeldT.one (i := 4) (by simp only [List.getElem?_toArray, List.getElem?_cons_succ, List.getElem?_cons_zero]; rfl) (by kernel_rfl) (by kernel_rfl) (fun K hK => ?_)
          go_simp
          obtain ⟨g3, hg3⟩ : ∃ g, g = W3.heap.size := ⟨_, rfl⟩
          have Z3 : Hid (Zero w (W3.alloc (.cells #[.string ⟨#[]⟩, .string ⟨#[]⟩, .string ⟨#[]⟩, .string ⟨#[]⟩, .string ⟨#[]⟩, .int .i64 0, .int .i64 0, .slice none 0 0, .bool false, .int .i64 0, .string ⟨#[]⟩, .string ⟨#[]⟩, .string ⟨#[]⟩, .string ⟨#[]⟩] 36)) W3.heap.size) := zero_new HB.out _ _ rfl
          rw [← hg3] at Z3
          have HNE : Hid (g3 ≠ g4) := by have := Z4.out.2.2; show g3 ≠ g4; omega
          have Z4 := Go.Lib.hid (Z4.out.step ((Below.refl W3.heap.size W3).alloc (Nat.le_refl _) (.cells #[.string ⟨#[]⟩, .string ⟨#[]⟩, .string ⟨#[]⟩, .string ⟨#[]⟩, .string ⟨#[]⟩, .int .i64 0, .int .i64 0, .slice none 0 0, .bool false, .int .i64 0, .string ⟨#[]⟩, .string ⟨#[]⟩, .string ⟨#[]⟩, .string ⟨#[]⟩] 36)))
          have HB := Go.Lib.hid (HB.out.step ((Below.refl W3.heap.size W3).alloc (Nat.le_refl _) (.cells #[.string ⟨#[]⟩, .string ⟨#[]⟩, .string ⟨#[]⟩, .string ⟨#[]⟩, .string ⟨#[]⟩, .int .i64 0, .int .i64 0, .slice none 0 0, .bool false, .int .i64 0, .string ⟨#[]⟩, .string ⟨#[]⟩, .string ⟨#[]⟩, .string ⟨#[]⟩] 36)))
          refine hK.out _ _ ?_ (fun hHeld => ?_)
          · (try dsimp only); exact HB.out.S
          clear hHeld hK K
          try simp only [Act.put, List.setIfInBounds_toArray, List.set_cons_zero, List.set_cons_succ]
          rw [← hg3]
          generalize W3.alloc (.cells #[.string ⟨#[]⟩, .string ⟨#[]⟩, .string ⟨#[]⟩, .string ⟨#[]⟩, .string ⟨#[]⟩, .int .i64 0, .int .i64 0, .slice none 0 0, .bool false, .int .i64 0, .string ⟨#[]⟩, .string ⟨#[]⟩, .string ⟨#[]⟩, .string ⟨#[]⟩] 36) = W4 at Z3 Z4 HB ⊢
          clear hg3
        case' q51x4 =>
          go_simp
          obtain ⟨g3, hg3⟩ : ∃ g, g = W2.heap.size := ⟨_, rfl⟩
          have Z3 : Hid (Zero w (W2.alloc (.cells #[.string ⟨#[]⟩, .string ⟨#[]⟩, .string ⟨#[]⟩, .string ⟨#[]⟩, .string ⟨#[]⟩, .int .i64 0, .int .i64 0, .slice none 0 0, .bool false, .int .i64 0, .string ⟨#[]⟩, .string ⟨#[]⟩, .string ⟨#[]⟩, .string ⟨#[]⟩] 36)) W2.heap.size) := zero_new HB.out _ _ rfl
          rw [← hg3] at Z3
          have HNE : Hid (g3 ≠ g4) := by have := Z4.out.2.2; show g3 ≠ g4; omega
          have Z4 := Go.Lib.hid (Z4.out.step ((Below.refl W2.heap.size W2).alloc (Nat.le_refl _) (.cells #[.string ⟨#[]⟩, .string ⟨#[]⟩, .string ⟨#[]⟩, .string ⟨#[]⟩, .string ⟨#[]⟩, .int .i64 0, .int .i64 0, .slice none 0 0, .bool false, .int .i64 0, .string ⟨#[]⟩, .string ⟨#[]⟩, .string ⟨#[]⟩, .string ⟨#[]⟩] 36)))
          have HB := Go.Lib.hid (HB.out.step ((Below.refl W2.heap.size W2).alloc (Nat.le_refl _) (.cells #[.string ⟨#[]⟩, .string ⟨#[]⟩, .string ⟨#[]⟩, .string ⟨#[]⟩, .string ⟨#[]⟩, .int .i64 0, .int .i64 0, .slice none 0 0, .bool false, .int .i64 0, .string ⟨#[]⟩, .string ⟨#[]⟩, .string ⟨#[]⟩, .string ⟨#[]⟩] 36)))
          refine hK.out _ _ ?_ (fun hHeld => ?_)
          · (try dsimp only); exact HB.out.S
          clear hHeld hK K
          try simp only [Act.put, List.setIfInBounds_toArray, List.set_cons_zero, List.set_cons_succ]
          rw [← hg3]
          generalize W2.alloc (.cells #[.string ⟨#[]⟩, .string ⟨#[]⟩, .string ⟨#[]⟩, .string ⟨#[]⟩, .string ⟨#[]⟩, .int .i64 0, .int .i64 0, .slice none 0 0, .bool false, .int .i64 0, .string ⟨#[]⟩, .string ⟨#[]⟩, .string ⟨#[]⟩, .string ⟨#[]⟩] 36) = W3 at Z3 Z4 HB ⊢
          clear hg3
          refine HeldT.one (i := 3) (by simp only [List.getElem?_toArray, List.getElem?_cons_succ, List.getElem?_cons_zero]; rfl) (by kernel_rfl) (by kernel_rfl) (fun K hK => ?_)
          go_simp
          refine (H2.out _).mono ?_
          rintro e W4 ⟨Ys, lbs, las, ls, rs, cs, tes, gs, ns, caps, bbs, rfl, b1⟩
          have Z3 := Go.Lib.hid (Z3.out.step b1)
          have Z4 := Go.Lib.hid (Z4.out.step b1)
          have HB := Go.Lib.hid (HB.out.step b1)
          clear b1
          try go_wp2_with fail
          refine hK.out _ _ ?_ (fun hHeld => ?_)
          · (try dsimp only); exact HB.out.S
          clear hHeld hK K
          try simp only [Act.put, List.setIfInBounds_toArray, List.set_cons_zero, List.set_cons_succ]
      case' q5x4 =>
        go_simp
        obtain ⟨g3, hg3⟩ : ∃ g, g = W1.heap.size := ⟨_, rfl⟩
        have Z3 : Hid (Zero w (W1.alloc (.cells #[.string ⟨#[]⟩, .string ⟨#[]⟩, .string ⟨#[]⟩, .string ⟨#[]⟩, .string ⟨#[]⟩, .int .i64 0, .int .i64 0, .slice none 0 0, .bool false, .int .i64 0, .string ⟨#[]⟩, .string ⟨#[]⟩, .string ⟨#[]⟩, .string ⟨#[]⟩] 36)) W1.heap.size) := zero_new HB.out _ _ rfl
        rw [← hg3] at Z3
        have HNE : Hid (g3 ≠ g4) := by have := Z4.out.2.2; show g3 ≠ g4; omega
        have Z4 := Go.Lib.hid (Z4.out.step ((Below.refl W1.heap.size W1).alloc (Nat.le_refl _) (.cells #[.string ⟨#[]⟩, .string ⟨#[]⟩, .string ⟨#[]⟩, .string ⟨#[]⟩, .string ⟨#[]⟩, .int .i64 0, .int .i64 0, .slice none 0 0, .bool false, .int .i64 0, .string ⟨#[]⟩, .string ⟨#[]⟩, .string ⟨#[]⟩, .string ⟨#[]⟩] 36)))
        have HB := Go.Lib.hid (HB.out.step ((Below.refl W1.heap.size W1).alloc (Nat.le_refl _) (.cells #[.string ⟨#[]⟩, .string ⟨#[]⟩, .string ⟨#[]⟩, .string ⟨#[]⟩, .string ⟨#[]⟩, .int .i64 0, .int .i64 0, .slice none 0 0, .bool false, .int .i64 0, .string ⟨#[]⟩, .string ⟨#[]⟩, .string ⟨#[]⟩, .string ⟨#[]⟩] 36)))
        refine hK.out _ _ ?_ (fun hHeld => ?_)
        · (try dsimp only); exact HB.out.S
        clear hHeld hK K
        try simp only [Act.put, List.setIfInBounds_toArray, List.set_cons_zero, List.set_cons_succ]
        rw [← hg3]
        generalize W1.alloc (.cells #[.string ⟨#[]⟩, .string ⟨#[]⟩, .string ⟨#[]⟩, .string ⟨#[]⟩, .string ⟨#[]⟩, .int .i64 0, .int .i64 0, .slice none 0 0, .bool false, .int .i64 0, .string ⟨#[]⟩, .string ⟨#[]⟩, .string ⟨#[]⟩, .string ⟨#[]⟩] 36) = W2 at Z3 Z4 HB ⊢
        clear hg3
        refine HeldT.one (i := 1) (by simp only [List.getElem?_toArray, List.getElem?_cons_succ, List.getElem?_cons_zero]; rfl) (by kernel_rfl) (by kernel_rfl) (fun K hK => ?_)
        go_simp
        refine (H1.out _).mono ?_
        rintro e W3 ⟨Yi, lbi, lai, li, ri, ci, tei, gi, ni, capi, bbi, rfl, b1⟩
        have Z3 := Go.Lib.hid (Z3.out.step b1)
        have Z4 := Go.Lib.hid (Z4.out.step b1)
        have HB := Go.Lib.hid (HB.out.step b1)
        clear b1
        try go_wp2_with fail
        refine hK.out _ _ ?_ (fun hHeld => ?_)
        · (try dsimp only); exact HB.out.S
        clear hHeld hK K
        try simp only [Act.put, List.setIfInBounds_toArray, List.set_cons_zero, List.set_cons_succ]
        refine HeldT.one (i := 3) (by simp only [List.getElem?_toArray, List.getElem?_cons_succ, List.getElem?_cons_zero]; rfl) (by kernel_rfl) (by kernel_rfl) (fun K hK => ?_)
        go_simp
        refine (H2.out _).mono ?_
        rintro e W4 ⟨Ys, lbs, las, ls, rs, cs, tes, gs, ns, caps, bbs, rfl, b1⟩
        have Z3 := Go.Lib.hid (Z3.out.step b1)
        have Z4 := Go.Lib.hid (Z4.out.step b1)
        have HB := Go.Lib.hid (HB.out.step b1)
        clear b1
        try go_wp2_with fail
        refine hK.out _ _ ?_ (fun hHeld => ?_)
        · (try dsimp only); exact HB.out.S
        clear hHeld hK K
        try simp only [Act.put, List.setIfInBounds_toArray, List.set_cons_zero, List.set_cons_succ]
    all_goals refine HeldT.tail (by kernel_rfl) (l := [_, _]) rfl ?_
    all_goals refine wpList_store_mid rfl _ _ _ rfl g3 0 _ rfl rfl Z3.out.1 (by kernel_rfl) (by simp [Value.oneCell']) ?_
    all_goals refine wpList_store_mid rfl _ _ _ rfl g4 0 _ rfl rfl (World.there_setCells Z4.out.1 _ _ _) (by kernel_rfl) (by simp [Value.oneCell']) ?_
    all_goals rw [puts_eq, puts_eq]
    all_goals have HBO : Hid (Both X WB WA SB SA w g3 g4 _) := both_puts (W := W4) [.string X, .string Yi, .string lbi, .string lai, .string li, .int .i64 ri, .int .i64 ci, .slice (some ⟨gi, 0, none⟩) ni capi, .bool bbi, .int .i64 tei, .string WB, .string WA, .string SB, .string SA] [.string X, .string Ys, .string lbs, .string las, .string ls, .int .i64 rs, .int .i64 cs, .slice (some ⟨gs, 0, none⟩) ns caps, .bool bbs, .int .i64 tes, .string WB, .string WA, .string SB, .string SA] rfl rfl HB.out.b Z3.out.2.1 Z4.out.2.1 Z3.out.2.2 Z4.out.2.2 HNE.out Z3.out.some Z4.out.some ⟨rfl, rfl, rfl, rfl, rfl⟩ ⟨rfl, rfl, rfl, rfl, rfl⟩
    all_goals clear HB Z3 Z4 HNE
    all_goals generalize puts (puts W4 _ _ _) _ _ _ = W5 at HBO ⊢
    all_goals (try go_simp)
    all_goals (try go_wp2_with fail)
    all_goals go_meet
    all_goals exact ⟨g3, g4, rfl, rfl, HBO.out⟩
  case rest =>
    obtain ⟨g3, g4, rfl, rfl, HBO⟩ := hcut
    obtain ⟨-, l3, l4, hc⟩ := HBO.out
    obtain ⟨a0, a1, a2, a3, a4⟩ := hc g3 (.inl rfl)
    obtain ⟨d0, d1, d2, d3, d4⟩ := hc g4 (.inr rfl)
    clear hc
    go_wp2_with fail
    go_returns
    exact ⟨rfl, HBO.out.1⟩

namespace fnWords
theorem walk (s : ByteArray) (at_ : Int) (w : World) (hs : s.size ≤ maxLen) (hat : (Lit.int .i64 at_).wf = true) :
    Calls Try.prog 7 #[.agg #[.string s, .int .i64 at_]] w fun e w' => e = .returned (.bool true) ∧ Below w.heap.size w w' := by
  unfold maxLen at hs
  clear hat
  by_cases h1 : 2147483647 < (s.size : Int)
  · go_enter Try.func7, Try.ntmps7
    go_wp2_with fail
    refine (fits2_no s at_ _ h1 (by omega)).mono ?_
    rintro e w1 ⟨rfl, rfl⟩
    go_wp2_with fail
    go_returns
    exact ⟨rfl, by go_grown⟩
  by_cases h2 : Right s at_
  · obtain ⟨i, rfl⟩ := Int.eq_ofNat_of_zero_le h2.2.1
    exact words_core s i w h2.1 (by have := h2.2.2; omega)
  · have H2 := Go.Lib.hid h2
    clear h2
    go_enter Try.func7, Try.ntmps7
    go_wp2_with fail
    refine (fits2_yes s _ _ (by omega)).mono ?_
    rintro e w1 ⟨rfl, rfl⟩
    go_wp2_with fail
    refine (right_no s _ _ hs H2.out).mono ?_
    rintro e w1 ⟨rfl, rfl⟩
    go_wp2_with fail
    go_returns
    exact ⟨rfl, by go_grown⟩
end fnWords
end Go.Proofs.Ytedjjimabchffaa
