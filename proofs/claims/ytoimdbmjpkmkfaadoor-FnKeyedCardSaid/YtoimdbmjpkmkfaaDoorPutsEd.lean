/- spec.Editor.Do at a text written, at a sign replaced at the end. -/
import Derived.Test.YtoimdbmjpkmkfaaDoorEdTake
import Derived.Test.YtoimdbmjpkmkfaaDoorPutsTr
namespace Go.Proofs.YtoimdbmjpkmkfaaDoor
open Go.RowKit
set_option linter.unusedVariables false
set_option linter.unusedSimpArgs false

set_option maxRecDepth 100000 in
set_option maxHeartbeats 2000000 in
theorem do_write (l : List Int) (k : Nat) (kept : List Int) (s : ByteArray) (n : Int) (f b : Bool) (hk : k ≤ l.length) (hl : l.length ≤ 100000) (hs : s.size ≤ 100000) : DoOk ⟨1, s, n, f, b⟩ l k kept (-1) (l.take k ++ runes s ++ l.drop k) (k + (runes s).length) kept false false := fun eb w h => by
  have H1 : Hid (Ed (w.alloc (.cells #[.int .i64 1, .string s, .int .i64 n, .bool f, .bool b] 30)) eb l k kept false false) := h.same ((Below.refl _ _).alloc (Nat.le_refl _) _)
  have K1 : Hid (EdK eb w (w.alloc (.cells #[.int .i64 1, .string s, .int .i64 n, .bool f, .bool b] 30))) := (EdK.refl _ _).alloc _
  have hz : eb < w.heap.size := by obtain ⟨_, _, _, _, h⟩ := h; exact h.sz
  obtain ⟨A, cap, B, cap2, hv⟩ := H1.out
  have c0 := hv.c0
  have c3 := hv.c3
  have c4 := hv.c4
  have hrl : (runes s).length ≤ s.size := runes_length s
  obtain ⟨capS, W, hcv, hrow, hbW⟩ := row_runes (w.alloc (.cells #[.int .i64 1, .string s, .int .i64 n, .bool f, .bool b] 30)) (w.alloc (.cells #[.int .i64 1, .string s, .int .i64 n, .bool f, .bool b] 30)).heap.size s hs (Nat.le_refl _)
  have HP := Go.Lib.hid (ed_put eb l k kept (runes s) _ capS W (H1.out.same hbW) hk hl (by omega) (row_rw hrow (by simp; omega)).1 (fun e => by cases e) (row_rw (eb := eb) hrow (by simp; omega)).2.1)
  have KW := Go.Lib.hid (K1.out.trans (EdK.of hbW))
  rw [show (w.alloc (.cells #[.int .i64 1, .string s, .int .i64 n, .bool f, .bool b] 30)).heap.size = w.heap.size + 1 by simp] at hcv HP
  generalize hlen : (runes s).length = len at hcv HP
  generalize hq : l.take k ++ runes s ++ l.drop k = q at HP
  clear h hv hrow hbW hs hrl hlen hq
  unfold Ky.val
  go_enter Tryd.func7, Tryd.ntmps7
  go_wp2_with fail
  refine HP.out.mono ?_
  rintro e w1 ⟨rfl, h1, o1⟩
  have HE := Go.Lib.hid h1
  have O1 : Hid (EdK eb w w1) := KW.out.trans o1
  clear h1 o1
  go_wp2_with fail
  go_returns
  exact ⟨rfl, HE.out, O1.out⟩

set_option maxRecDepth 100000 in
set_option maxHeartbeats 2000000 in
theorem do_replace_bad (l : List Int) (k : Nat) (kept : List Int) (s : ByteArray) (n : Int) (f b : Bool) (hk : k = l.length) (hl : l.length ≤ 100000) : DoOk ⟨8, s, n, f, b⟩ l k kept (-1) l k kept true false := fun eb w h => by
  have H1 : Hid (Ed (w.alloc (.cells #[.int .i64 8, .string s, .int .i64 n, .bool f, .bool b] 30)) eb l k kept false false) := h.same ((Below.refl _ _).alloc (Nat.le_refl _) _)
  have K1 : Hid (EdK eb w (w.alloc (.cells #[.int .i64 8, .string s, .int .i64 n, .bool f, .bool b] 30))) := (EdK.refl _ _).alloc _
  obtain ⟨A, cap, B, cap2, hv⟩ := H1.out
  have HV := Go.Lib.hid hv
  have c0 := hv.c0
  have c1 := hv.c1
  have c3 := hv.c3
  have c4 := hv.c4
  have f3 := hv.f 3
  have z1 := hv.sz
  have e0 : ((k : Int) == (l.length : Int)) = true := by simp; omega
  clear h hv hk
  unfold Ky.val
  go_enter Tryd.func7, Tryd.ntmps7
  go_wp2_with fail
  go_returns
  exact ⟨rfl, ⟨_, _, _, _, HV.out.setBad true⟩, K1.out.set _ _⟩

theorem row_one (w : World) (base : Nat) (c : Int) (h : base ≤ w.heap.size) : Row (w.alloc (.cells #[.int .i32 c] 21)) base (some ⟨w.heap.size, 0, none⟩) 1 [c] :=
  ⟨by simp [i32s], .inr ⟨w.heap.size, 1, #[.int .i32 c], rfl, h, heap_alloc_new w _, Nat.le_refl _, by unfold maxLen; decide, rfl, rfl⟩⟩
theorem Row.alloc {w : World} {base : Nat} {A : Option Addr} {cap : Nat} {l : List Int} (h : Row w base A cap l) (o : Obj) : Row (w.alloc o) base A cap l :=
  h.kept fun k _ hk _ _ => ((Below.refl w.heap.size w).alloc (Nat.le_refl _) o).block k hk
theorem set_cut (l : List Int) (k : Nat) (c : Int) (h : k < l.length) : l.take k ++ [c] ++ l.drop (k + 1) = l.set k c := by
  rw [List.set_eq_take_append_cons_drop, if_pos h]; simp

/-- The row of one behind the first append, and the rest. -/
theorem rep_ends {w0 W1 : World} {eb : Nat} {l : List Int} {k : Nat} {kept : List Int} {A : Option Addr} {cap : Nat} {B : Option Addr} {cap2 : Nat} (hv : EdV w0 eb l k kept false false A cap B cap2) (hk : k < l.length) (hl : l.length ≤ 100000)
    (c : Int) (b1 : Below w0.heap.size w0 W1) {A1 : Option Addr} {c1 : Nat} (o1 : Row W1 w0.heap.size A1 c1 (l.take k)) {g : Nat} (src : Row W1 w0.heap.size (some ⟨g, 0, none⟩) 1 [c]) :
    ∃ A2 c2 w2 A3 c3 w3, (Builtin.append_ #[38, 38] 38 #[.slice A1 k c1, .slice (some ⟨g, 0, none⟩) 1 1]).run Tryd.prog W1 = .ok (.slice A2 (k + 1) c2) w2 ∧
      (Builtin.append_ #[38, 38] 38 #[.slice A2 (k + 1) c2, .slice (fromA A cap (k + 1)) (l.length - (k + 1)) (cap - (k + 1))]).run Tryd.prog w2 = .ok (.slice A3 l.length c3) w3 ∧
      Below w0.heap.size w0 w2 ∧ Below w0.heap.size w0 w3 ∧ EdV w3 eb l k kept false false A cap B cap2 ∧ EdV (w3.setCell ⟨eb, 0, none⟩ (.slice A3 l.length c3)) eb (l.set k c) k kept false false A3 c3 B cap2 := by
  have hlen1 : (l.take k).length = k := by simp; omega
  have hlen2 : (l.take k ++ [c]).length = k + 1 := by simp; omega
  have hlen3 : (l.take k ++ [c] ++ l.drop (k + 1)).length = l.length := by rw [set_cut l k c hk, List.length_set]
  obtain ⟨A2, c2, w2, r2, o2, g2, _⟩ := run_append_row W1 w0.heap.size A1 c1 (l.take k) o1 (some ⟨g, 0, none⟩) 1 1 [c] src.src b1.size (by simp; omega)
  rw [hlen1, hlen2] at r2
  have b2 : Below w0.heap.size w0 w2 := b1.grown g2 b1.size fun g hg => (o1.blk_lt hg).1
  have hvW : EdV w2 eb l k kept false false A cap B cap2 := hv.same b2
  obtain ⟨A3, c3, w3, r3, o3, g3, _⟩ := run_append_row w2 w0.heap.size A2 c2 (l.take k ++ [c]) o2 _ _ _ _ (whole_src hvW.r0 hv.n0 hv.lc (k + 1) hk) b2.size (by simp; omega)
  rw [hlen2, hlen3] at r3
  have b3 : Below w0.heap.size w0 w3 := b2.grown g3 b2.size fun g hg => (o2.blk_lt hg).1
  rw [set_cut l k c hk] at o3
  obtain ⟨q1, q2, q3⟩ := row_rw (eb := eb) o3 hv.sz
  have hv4 := (hv.same b3).line q1 q2 q3
  rw [List.length_set] at hv4
  exact ⟨A2, c2, w2, A3, c3, w3, r2, r3, b2, b3, hv.same b3, hv4⟩

theorem Row.grown {w w' : World} {base : Nat} {A A' : Option Addr} {cap : Nat} {l : List Int} (h : Row w base A cap l) (hg : w.grownBy w' (blk A')) (hne : ∀ x, blk A = Option.some x → blk A' ≠ Option.some x) : Row w' base A cap l :=
  h.kept fun k _ hk _ hb => hg.block k hk fun e => hne k hb (by rw [← e])
theorem fromA_zero (A : Option Addr) (cap : Nat) : fromA A cap 0 = A := by
  unfold fromA
  split
  · rfl
  · cases A <;> simp [Addr.add]

/-- The first append, from a world where the empty row and, apart from it, the row of one may lie. -/
theorem rep_first {w0 W : World} {eb : Nat} {l : List Int} {k : Nat} {kept : List Int} {A : Option Addr} {cap : Nat} {B : Option Addr} {cap2 : Nat} (hv : EdV w0 eb l k kept false false A cap B cap2) (hk : k < l.length) (hl : l.length ≤ 100000)
    (b : Below w0.heap.size w0 W) {x : Nat} (o : Row W w0.heap.size (some ⟨x, 0, none⟩) 0 []) :
    ∃ A1 c1 w1, (Builtin.append_ #[38, 38] 38 #[.slice (some ⟨x, 0, none⟩) 0 0, .slice A k cap]).run Tryd.prog W = .ok (.slice A1 k c1) w1 ∧ Row w1 w0.heap.size A1 c1 (l.take k) ∧ Below w0.heap.size w0 w1 ∧ W.grownBy w1 (some x) := by
  have hvW := hv.same b
  have hs := rw_src hvW.r0 hv.n0 hv.lc 0 k (by omega) (by omega)
  rw [fromA_zero, List.drop_zero, Nat.sub_zero, Nat.sub_zero] at hs
  obtain ⟨A1, c1, w1, r1, o1, g1, _⟩ := run_append_row W w0.heap.size (some ⟨x, 0, none⟩) 0 [] o _ _ _ _ hs b.size (by simp; omega)
  have hlen : ([] ++ l.take k).length = k := by simp; omega
  rw [hlen] at r1
  exact ⟨A1, c1, w1, r1, o1, b.grown g1 b.size fun g hg => (o.blk_lt hg).1, g1⟩

set_option maxRecDepth 100000 in
set_option maxHeartbeats 8000000 in
theorem do_replace (l : List Int) (k : Nat) (kept : List Int) (s : ByteArray) (c : Int) (f b : Bool) (hk : k < l.length) (hl : l.length ≤ 100000) (hc0 : 0 ≤ c) (hc1 : c ≤ 1114111) : DoOk ⟨8, s, c, f, b⟩ l k kept (-1) (l.set k c) k kept false false := fun eb w h => by
  obtain ⟨w0, hw0⟩ : ∃ w0, w0 = w.alloc (.cells #[.int .i64 8, .string s, .int .i64 c, .bool f, .bool b] 30) := ⟨_, rfl⟩
  have h1 : Ed w0 eb l k kept false false := hw0 ▸ h.same ((Below.refl _ _).alloc (Nat.le_refl _) _)
  have K1 : Hid (EdK eb w w0) := hw0 ▸ (EdK.refl _ _).alloc _
  obtain ⟨A, cap, B, cap2, hv⟩ := h1
  have kz : w.heap.size < w0.heap.size := by rw [hw0]; simp
  have p0 : w0.cell? ⟨w.heap.size, 0, none⟩ = some (.int .i64 8) := by rw [hw0]; simp [go_sem]
  have p2 : w0.cell? ⟨w.heap.size, 2, none⟩ = some (.int .i64 c) := by rw [hw0]; simp [go_sem]
  have hc32 : IntKind.i32.wrap c = c := IntWalk.i32_in _ (by omega)
  have sz := hv.sz
  have c0 := hv.c0
  have c1' := hv.c1
  have cb3 := hv.c3
  have cb4 := hv.c4
  have hS : Hid (∀ w', Below w0.heap.size w0 w' → w'.cell? ⟨eb, 0, none⟩ = some (.slice A l.length cap) ∧ w'.cell? ⟨eb, 1, none⟩ = some (.int .i64 (k : Nat)) ∧ w'.cell? ⟨w.heap.size, 2, none⟩ = some (.int .i64 c)) :=
    fun w' hb => ⟨(hb.cell (p := ⟨eb, 0, none⟩) sz).trans c0, (hb.cell (p := ⟨eb, 1, none⟩) sz).trans c1', (hb.cell (p := ⟨w.heap.size, 2, none⟩) kz).trans p2⟩
  -- the worlds, order by order
  have bD : Below w0.heap.size w0 w0.drew := (Below.refl _ _).drew
  have bE := bD.alloc bD.size (.cells #[] 21)
  have bS := bD.alloc bD.size (.cells #[.int .i32 c] 21)
  have bB := bE.alloc bE.size (.cells #[.int .i32 c] 21)
  have bC := bS.alloc bS.size (.cells #[] 21)
  have eE := row_empty w0.drew w0.heap.size (Nat.le_refl _)
  obtain ⟨A1, c1, wA, r1A, oA, bA, _⟩ := rep_first hv hk hl bE eE
  have bA2 := bA.alloc bA.size (.cells #[.int .i32 c] 21)
  obtain ⟨A2, c2, wA2, A3, c3, wA3, r2A, r3A, bA3, bA4, vA, eA⟩ := rep_ends hv hk hl c bA2 (oA.alloc _) (row_one wA w0.heap.size c bA.size)
  obtain ⟨A4, c4, wB, r1B, oB, bB2, gB⟩ := rep_first hv hk hl bB (eE.alloc _)
  obtain ⟨A5, c5, wB2, A6, c6, wB3, r2B, r3B, bB3, bB4, vB, eB⟩ := rep_ends hv hk hl c bB2 oB ((row_one (w0.drew.alloc (.cells #[] 21)) w0.heap.size c bE.size).grown (A' := some ⟨w0.drew.heap.size, 0, none⟩) gB (fun x hx hy => by simp [blk] at hx hy; omega))
  obtain ⟨A7, c7, wC, r1C, oC, bC2, gC⟩ := rep_first hv hk hl bC (row_empty (w0.drew.alloc (.cells #[.int .i32 c] 21)) w0.heap.size bS.size)
  obtain ⟨A8, c8, wC2, A9, c9, wC3, r2C, r3C, bC3, bC4, vC, eC⟩ := rep_ends hv hk hl c bC2 oC (((row_one w0.drew w0.heap.size c (Nat.le_refl _)).alloc (.cells #[] 21)).grown (A' := some ⟨(w0.drew.alloc (.cells #[.int .i32 c] 21)).heap.size, 0, none⟩) gC (fun x hx hy => by simp [blk] at hx hy; omega))
  have s1 := up_run A l.length cap k (by have := hv.lc; omega)
  have s2 := from_run A l.length cap (k + 1) hk
  have ek : ((k : Int) == (l.length : Int)) = false := by simp; omega
  have hadd : IntKind.i64.wrap ((k : Int) + 1) = ((k + 1 : Nat) : Int) := by rw [IntWalk.i64_in _ (by omega)]; omega
  obtain ⟨L, hL⟩ : ∃ L, L = l.set k c := ⟨_, rfl⟩
  rw [← hL] at eA eB eC ⊢
  rw [show (w0.drew.alloc (.cells #[] 21)).heap.size = w0.heap.size + 1 by simp] at r2B
  rw [show (w0.drew.alloc (.cells #[.int .i32 c] 21)).heap.size = w0.heap.size + 1 by simp] at r1C
  obtain ⟨m, hm⟩ : ∃ m, m = k + 1 := ⟨_, rfl⟩
  rw [← hm] at r2A r3A r2B r3B r2C r3C hadd s2
  have fA := vA.f 0
  have fB := vB.f 0
  have fC := vC.f 0
  have jA := vA.c0
  have jB := vB.c0
  have jC := vC.c0
  have zA := vA.sz
  have zB := vB.sz
  have zC := vC.sz
  have KA : Hid (EdK eb w wA3) := K1.out.trans (.of bA4)
  have KB : Hid (EdK eb w wB3) := K1.out.trans (.of bB4)
  have KC : Hid (EdK eb w wC3) := K1.out.trans (.of bC4)
  have EA := Go.Lib.hid eA
  have EB := Go.Lib.hid eB
  have EC := Go.Lib.hid eC
  have R1A := Go.Lib.hid r1A
  have R2A := Go.Lib.hid r2A
  have R3A := Go.Lib.hid r3A
  have R1B := Go.Lib.hid r1B
  have R2B := Go.Lib.hid r2B
  have R3B := Go.Lib.hid r3B
  have R1C := Go.Lib.hid r1C
  have R2C := Go.Lib.hid r2C
  have R3C := Go.Lib.hid r3C
  have BD := Go.Lib.hid bD
  have BE := Go.Lib.hid bE
  have BS := Go.Lib.hid bS
  have BB := Go.Lib.hid bB
  have BC := Go.Lib.hid bC
  have BA := Go.Lib.hid bA
  have BA2 := Go.Lib.hid bA2
  have BA3 := Go.Lib.hid bA3
  have BA4 := Go.Lib.hid bA4
  have BB2 := Go.Lib.hid bB2
  have BB3 := Go.Lib.hid bB3
  have BB4 := Go.Lib.hid bB4
  have BC2 := Go.Lib.hid bC2
  have BC3 := Go.Lib.hid bC3
  have BC4 := Go.Lib.hid bC4
  have ha := hw0.symm
  clear h hv bD bE bS bB bC eE r1A oA bA bA2 r2A r3A bA3 bA4 vA eA r1B oB bB2 gB r2B r3B bB3 bB4 vB eB r1C oC bC2 gC r2C r3C bC3 bC4 vC eC hL hm hw0
  unfold Ky.val
  go_enter Tryd.func7, Tryd.ntmps7
  go_wp2_with fail
  clear ha
  refine region_held_tail 28 (S := (fun w' => w'.cell? ⟨eb, 0, none⟩ = some (.slice A l.length cap) ∧ w'.cell? ⟨eb, 1, none⟩ = some (.int .i64 (k : Nat)) ∧ w'.cell? ⟨w.heap.size, 2, none⟩ = some (.int .i64 c))) (by kernel_rfl) (by kernel_rfl) ?_ (fun hHeld => ?_)
  · (try dsimp only); first | done | (exact hS.out _ BD.out)
  refine HeldT.take (i := 0) (v := ?_) (by simp only [List.getElem?_toArray, List.getElem?_cons_succ, List.getElem?_cons_zero]; rfl) (by kernel_rfl) (by kernel_rfl) (by kernel_rfl) (by kernel_rfl) (by exact fun _ _ _ h => h) ?_ (by assumption) ?_
  rotate_left
  · refine Or.inl ⟨by rfl, ?_⟩
    (intro w hSw; (try dsimp only at hSw); go_simp; try with_reducible rfl)
  try simp only [Act.put, List.setIfInBounds_toArray, List.set_cons_zero, List.set_cons_succ]
  refine HeldT.take (i := 2) (v := ?_) (by simp only [List.getElem?_toArray, List.getElem?_cons_succ, List.getElem?_cons_zero]; rfl) (by kernel_rfl) (by kernel_rfl) (by kernel_rfl) (by kernel_rfl) (by exact fun _ _ _ h => h) ?_ (by assumption) ?_
  rotate_left
  · refine Or.inl ⟨by rfl, ?_⟩
    (intro w hSw; (try dsimp only at hSw); go_simp; try with_reducible rfl)
  try simp only [Act.put, List.setIfInBounds_toArray, List.set_cons_zero, List.set_cons_succ]
  refine HeldT.take (i := 3) (v := ?_) (by simp only [List.getElem?_toArray, List.getElem?_cons_succ, List.getElem?_cons_zero]; rfl) (by kernel_rfl) (by kernel_rfl) (by kernel_rfl) (by kernel_rfl) (by exact fun _ _ _ h => h) ?_ (by assumption) ?_
  rotate_left
  · refine Or.inl ⟨by rfl, ?_⟩
    (intro w hSw; (try dsimp only at hSw); go_simp; try with_reducible rfl)
  try simp only [Act.put, List.setIfInBounds_toArray, List.set_cons_zero, List.set_cons_succ]
  refine HeldT.take (i := 4) (v := ?_) (by simp only [List.getElem?_toArray, List.getElem?_cons_succ, List.getElem?_cons_zero]; rfl) (by kernel_rfl) (by kernel_rfl) (by kernel_rfl) (by kernel_rfl) (by exact fun _ _ _ h => h) ?_ (by assumption) ?_
  rotate_left
  · refine Or.inl ⟨by rfl, ?_⟩
    (intro w hSw; (try dsimp only at hSw); go_simp; try with_reducible rfl)
  try simp only [Act.put, List.setIfInBounds_toArray, List.set_cons_zero, List.set_cons_succ]
  refine HeldT.take (i := 5) (v := ?_) (by simp only [List.getElem?_toArray, List.getElem?_cons_succ, List.getElem?_cons_zero]; rfl) (by kernel_rfl) (by kernel_rfl) (by kernel_rfl) (by kernel_rfl) (by exact fun _ _ _ h => h) ?_ (by assumption) ?_
  rotate_left
  · refine Or.inl ⟨by rfl, ?_⟩
    (intro w hSw; (try dsimp only at hSw); go_simp; try with_reducible rfl)
  try simp only [Act.put, List.setIfInBounds_toArray, List.set_cons_zero, List.set_cons_succ]
  refine HeldT.take (i := 6) (v := ?_) (by simp only [List.getElem?_toArray, List.getElem?_cons_succ, List.getElem?_cons_zero]; rfl) (by kernel_rfl) (by kernel_rfl) (by kernel_rfl) (by kernel_rfl) (by exact fun _ _ _ h => h) ?_ (by assumption) ?_
  rotate_left
  · refine Or.inl ⟨by rfl, ?_⟩
    (intro w hSw; (try dsimp only at hSw); go_simp; try with_reducible rfl)
  try simp only [Act.put, List.setIfInBounds_toArray, List.set_cons_zero, List.set_cons_succ]
  refine HeldT.take (i := 7) (v := ?_) (by simp only [List.getElem?_toArray, List.getElem?_cons_succ, List.getElem?_cons_zero]; rfl) (by kernel_rfl) (by kernel_rfl) (by kernel_rfl) (by kernel_rfl) (by exact fun _ _ _ h => h) ?_ (by assumption) ?_
  rotate_left
  · refine Or.inl ⟨by rfl, ?_⟩
    (intro w hSw; (try dsimp only at hSw); go_simp; try with_reducible rfl)
  try simp only [Act.put, List.setIfInBounds_toArray, List.set_cons_zero, List.set_cons_succ]
  refine HeldT.take (i := 8) (v := ?_) (by simp only [List.getElem?_toArray, List.getElem?_cons_succ, List.getElem?_cons_zero]; rfl) (by kernel_rfl) (by kernel_rfl) (by kernel_rfl) (by kernel_rfl) (by exact fun _ _ _ h => h) ?_ (by assumption) ?_
  rotate_left
  · refine Or.inl ⟨by rfl, ?_⟩
    (intro w hSw; (try dsimp only at hSw); go_simp; try with_reducible rfl)
  try simp only [Act.put, List.setIfInBounds_toArray, List.set_cons_zero, List.set_cons_succ]
  refine HeldT.take (i := 9) (v := ?_) (by simp only [List.getElem?_toArray, List.getElem?_cons_succ, List.getElem?_cons_zero]; rfl) (by kernel_rfl) (by kernel_rfl) (by kernel_rfl) (by kernel_rfl) (by exact fun _ _ _ h => h) ?_ (by assumption) ?_
  rotate_left
  · refine Or.inl ⟨by rfl, ?_⟩
    (intro w hSw; (try dsimp only at hSw); go_simp; try with_reducible rfl)
  try simp only [Act.put, List.setIfInBounds_toArray, List.set_cons_zero, List.set_cons_succ]
  refine HeldT.take (i := 10) (v := ?_) (by simp only [List.getElem?_toArray, List.getElem?_cons_succ, List.getElem?_cons_zero]; rfl) (by kernel_rfl) (by kernel_rfl) (by kernel_rfl) (by kernel_rfl) (by exact fun _ _ _ h => h) ?_ (by assumption) ?_
  rotate_left
  · refine Or.inl ⟨by rfl, ?_⟩
    (intro w hSw; (try dsimp only at hSw); go_simp; try with_reducible rfl)
  try simp only [Act.put, List.setIfInBounds_toArray, List.set_cons_zero, List.set_cons_succ]
  refine HeldT.take (i := 12) (v := ?_) (by simp only [List.getElem?_toArray, List.getElem?_cons_succ, List.getElem?_cons_zero]; rfl) (by kernel_rfl) (by kernel_rfl) (by kernel_rfl) (by kernel_rfl) (by exact fun _ _ _ h => h) ?_ (by assumption) ?_
  rotate_left
  · refine Or.inl ⟨by rfl, ?_⟩
    (intro w hSw; (try dsimp only at hSw); go_simp; try with_reducible rfl)
  try simp only [Act.put, List.setIfInBounds_toArray, List.set_cons_zero, List.set_cons_succ]
  refine HeldT.take (i := 13) (v := ?_) (by simp only [List.getElem?_toArray, List.getElem?_cons_succ, List.getElem?_cons_zero]; rfl) (by kernel_rfl) (by kernel_rfl) (by kernel_rfl) (by kernel_rfl) (by exact fun _ _ _ h => h) ?_ (by assumption) ?_
  rotate_left
  · refine Or.inl ⟨by rfl, ?_⟩
    (intro w hSw; (try dsimp only at hSw); go_simp; try with_reducible rfl)
  try simp only [Act.put, List.setIfInBounds_toArray, List.set_cons_zero, List.set_cons_succ]
  refine HeldT.take (i := 14) (v := ?_) (by simp only [List.getElem?_toArray, List.getElem?_cons_succ, List.getElem?_cons_zero]; rfl) (by kernel_rfl) (by kernel_rfl) (by kernel_rfl) (by kernel_rfl) (by exact fun _ _ _ h => h) ?_ (by assumption) ?_
  rotate_left
  · refine Or.inl ⟨by rfl, ?_⟩
    (intro w hSw; (try dsimp only at hSw); go_simp; try with_reducible rfl)
  try simp only [Act.put, List.setIfInBounds_toArray, List.set_cons_zero, List.set_cons_succ]
  refine HeldT.take (i := 17) (v := ?_) (by simp only [List.getElem?_toArray, List.getElem?_cons_succ, List.getElem?_cons_zero]; rfl) (by kernel_rfl) (by kernel_rfl) (by kernel_rfl) (by kernel_rfl) (by exact fun _ _ _ h => h) ?_ (by assumption) ?_
  rotate_left
  · refine Or.inl ⟨by rfl, ?_⟩
    (intro w hSw; (try dsimp only at hSw); go_simp; try with_reducible rfl)
  try simp only [Act.put, List.setIfInBounds_toArray, List.set_cons_zero, List.set_cons_succ]
  refine HeldT.take (i := 18) (v := ?_) (by simp only [List.getElem?_toArray, List.getElem?_cons_succ, List.getElem?_cons_zero]; rfl) (by kernel_rfl) (by kernel_rfl) (by kernel_rfl) (by kernel_rfl) (by exact fun _ _ _ h => h) ?_ (by assumption) ?_
  rotate_left
  · refine Or.inl ⟨by rfl, ?_⟩
    (intro w hSw; (try dsimp only at hSw); go_simp; try with_reducible rfl)
  try simp only [Act.put, List.setIfInBounds_toArray, List.set_cons_zero, List.set_cons_succ]
  refine HeldT.take (i := 19) (v := ?_) (by simp only [List.getElem?_toArray, List.getElem?_cons_succ, List.getElem?_cons_zero]; rfl) (by kernel_rfl) (by kernel_rfl) (by kernel_rfl) (by kernel_rfl) (by exact fun _ _ _ h => h) ?_ (by assumption) ?_
  rotate_left
  · refine Or.inl ⟨by rfl, ?_⟩
    (intro w hSw; (try dsimp only at hSw); go_simp; try with_reducible rfl)
  try simp only [Act.put, List.setIfInBounds_toArray, List.set_cons_zero, List.set_cons_succ]
  refine HeldT.take (i := 20) (v := ?_) (by simp only [List.getElem?_toArray, List.getElem?_cons_succ, List.getElem?_cons_zero]; rfl) (by kernel_rfl) (by kernel_rfl) (by kernel_rfl) (by kernel_rfl) (by exact fun _ _ _ h => h) ?_ (by assumption) ?_
  rotate_left
  · refine Or.inl ⟨by rfl, ?_⟩
    (intro w hSw; (try dsimp only at hSw); go_simp; try with_reducible rfl)
  try simp only [Act.put, List.setIfInBounds_toArray, List.set_cons_zero, List.set_cons_succ]
  refine HeldT.take (i := 21) (v := ?_) (by simp only [List.getElem?_toArray, List.getElem?_cons_succ, List.getElem?_cons_zero]; rfl) (by kernel_rfl) (by kernel_rfl) (by kernel_rfl) (by kernel_rfl) (by exact fun _ _ _ h => h) ?_ (by assumption) ?_
  rotate_left
  · refine Or.inl ⟨by rfl, ?_⟩
    (intro w hSw; (try dsimp only at hSw); go_simp; try with_reducible rfl)
  try simp only [Act.put, List.setIfInBounds_toArray, List.set_cons_zero, List.set_cons_succ]
  refine HeldT.take (i := 22) (v := ?_) (by simp only [List.getElem?_toArray, List.getElem?_cons_succ, List.getElem?_cons_zero]; rfl) (by kernel_rfl) (by kernel_rfl) (by kernel_rfl) (by kernel_rfl) (by exact fun _ _ _ h => h) ?_ (by assumption) ?_
  rotate_left
  · refine Or.inl ⟨by rfl, ?_⟩
    (intro w hSw; (try dsimp only at hSw); go_simp; try with_reducible rfl)
  try simp only [Act.put, List.setIfInBounds_toArray, List.set_cons_zero, List.set_cons_succ]
  refine HeldT.take (i := 23) (v := ?_) (by simp only [List.getElem?_toArray, List.getElem?_cons_succ, List.getElem?_cons_zero]; rfl) (by kernel_rfl) (by kernel_rfl) (by kernel_rfl) (by kernel_rfl) (by exact fun _ _ _ h => h) ?_ (by assumption) ?_
  rotate_left
  · refine Or.inl ⟨by rfl, ?_⟩
    (intro w hSw; (try dsimp only at hSw); go_simp; try with_reducible rfl)
  try simp only [Act.put, List.setIfInBounds_toArray, List.set_cons_zero, List.set_cons_succ]
  refine HeldT.take (i := 24) (v := ?_) (by simp only [List.getElem?_toArray, List.getElem?_cons_succ, List.getElem?_cons_zero]; rfl) (by kernel_rfl) (by kernel_rfl) (by kernel_rfl) (by kernel_rfl) (by exact fun _ _ _ h => h) ?_ (by assumption) ?_
  rotate_left
  · refine Or.inl ⟨by rfl, ?_⟩
    (intro w hSw; (try dsimp only at hSw); go_simp; try with_reducible rfl)
  try simp only [Act.put, List.setIfInBounds_toArray, List.set_cons_zero, List.set_cons_succ]
  refine HeldT.take (i := 25) (v := ?_) (by simp only [List.getElem?_toArray, List.getElem?_cons_succ, List.getElem?_cons_zero]; rfl) (by kernel_rfl) (by kernel_rfl) (by kernel_rfl) (by kernel_rfl) (by exact fun _ _ _ h => h) ?_ (by assumption) ?_
  rotate_left
  · refine Or.inl ⟨by rfl, ?_⟩
    (intro w hSw; (try dsimp only at hSw); go_simp; try with_reducible rfl)
  try simp only [Act.put, List.setIfInBounds_toArray, List.set_cons_zero, List.set_cons_succ]
  refine HeldT.take (i := 26) (v := ?_) (by simp only [List.getElem?_toArray, List.getElem?_cons_succ, List.getElem?_cons_zero]; rfl) (by kernel_rfl) (by kernel_rfl) (by kernel_rfl) (by kernel_rfl) (by exact fun _ _ _ h => h) ?_ (by assumption) ?_
  rotate_left
  · refine Or.inl ⟨by rfl, ?_⟩
    (intro w hSw; (try dsimp only at hSw); go_simp; try with_reducible rfl)
  try simp only [Act.put, List.setIfInBounds_toArray, List.set_cons_zero, List.set_cons_succ]
  refine HeldT.two (i := 1) (k := 15) (by simp only [List.getElem?_toArray, List.getElem?_cons_succ, List.getElem?_cons_zero]; rfl) (by simp only [List.getElem?_toArray, List.getElem?_cons_succ, List.getElem?_cons_zero]; rfl) (by kernel_rfl) (by kernel_rfl) (by kernel_rfl) (fun K hK => ?gA1) (fun K hK => ?gB1)
  case' gA1 =>
    go_simp
    refine hK.out _ _ ?_ (fun hHeld => ?_)
    · (try dsimp only); first | done | (exact hS.out _ BE.out)
    clear hK K
    try simp only [Act.put, List.setIfInBounds_toArray, List.set_cons_zero, List.set_cons_succ]
    refine HeldT.two (i := 11) (k := 15) (by simp only [List.getElem?_toArray, List.getElem?_cons_succ, List.getElem?_cons_zero]; rfl) (by simp only [List.getElem?_toArray, List.getElem?_cons_succ, List.getElem?_cons_zero]; rfl) (by kernel_rfl) (by kernel_rfl) (by kernel_rfl) (fun K hK => ?gA2) (fun K hK => ?gB2)
    case' gA2 =>
      (refine step_append_run (by rfl) _ _ _ (by rfl) _ _ _ (by rfl) (by rfl) R1A.out ?_)
      refine hK.out _ _ ?_ (fun hHeld => ?_)
      · (try dsimp only); first | done | (exact hS.out _ BA.out)
      clear hK K
      try simp only [Act.put, List.setIfInBounds_toArray, List.set_cons_zero, List.set_cons_succ]
      refine HeldT.one (i := 15) (by simp only [List.getElem?_toArray, List.getElem?_cons_succ, List.getElem?_cons_zero]; rfl) (by kernel_rfl) (by kernel_rfl) (fun K hK => ?_)
      go_simp
      refine hK.out _ _ ?_ (fun hHeld => ?_)
      · (try dsimp only); first | done | (exact hS.out _ BA2.out)
      clear hK K
      try simp only [Act.put, List.setIfInBounds_toArray, List.set_cons_zero, List.set_cons_succ]
      refine HeldT.one (i := 16) (by simp only [List.getElem?_toArray, List.getElem?_cons_succ, List.getElem?_cons_zero]; rfl) (by kernel_rfl) (by kernel_rfl) (fun K hK => ?_)
      (refine step_append_run (by rfl) _ _ _ (by rfl) _ _ _ (by rfl) (by rfl) R2A.out ?_)
      refine hK.out _ _ ?_ (fun hHeld => ?_)
      · (try dsimp only); first | done | (exact hS.out _ BA3.out)
      clear hK K
      try simp only [Act.put, List.setIfInBounds_toArray, List.set_cons_zero, List.set_cons_succ]
      refine HeldT.one (i := 27) (by simp only [List.getElem?_toArray, List.getElem?_cons_succ, List.getElem?_cons_zero]; rfl) (by kernel_rfl) (by kernel_rfl) (fun K hK => ?_)
      (refine step_append_run (by rfl) _ _ _ (by rfl) _ _ _ (by rfl) (by rfl) R3A.out ?_)
      refine hK.out _ _ ?_ (fun hHeld => ?_)
      · (try dsimp only); first | done | (exact hS.out _ BA4.out)
      clear hK K
      try simp only [Act.put, List.setIfInBounds_toArray, List.set_cons_zero, List.set_cons_succ]
      refine HeldT.tail (by kernel_rfl) rfl ?_
    case' gB2 =>
      go_simp
      refine hK.out _ _ ?_ (fun hHeld => ?_)
      · (try dsimp only); first | done | (exact hS.out _ BB.out)
      clear hK K
      try simp only [Act.put, List.setIfInBounds_toArray, List.set_cons_zero, List.set_cons_succ]
      refine HeldT.one (i := 11) (by simp only [List.getElem?_toArray, List.getElem?_cons_succ, List.getElem?_cons_zero]; rfl) (by kernel_rfl) (by kernel_rfl) (fun K hK => ?_)
      (refine step_append_run (by rfl) _ _ _ (by rfl) _ _ _ (by rfl) (by rfl) R1B.out ?_)
      refine hK.out _ _ ?_ (fun hHeld => ?_)
      · (try dsimp only); first | done | (exact hS.out _ BB2.out)
      clear hK K
      try simp only [Act.put, List.setIfInBounds_toArray, List.set_cons_zero, List.set_cons_succ]
      refine HeldT.one (i := 16) (by simp only [List.getElem?_toArray, List.getElem?_cons_succ, List.getElem?_cons_zero]; rfl) (by kernel_rfl) (by kernel_rfl) (fun K hK => ?_)
      (refine step_append_run (by rfl) _ _ _ (by rfl) _ _ _ (by rfl) (by rfl) R2B.out ?_)
      refine hK.out _ _ ?_ (fun hHeld => ?_)
      · (try dsimp only); first | done | (exact hS.out _ BB3.out)
      clear hK K
      try simp only [Act.put, List.setIfInBounds_toArray, List.set_cons_zero, List.set_cons_succ]
      refine HeldT.one (i := 27) (by simp only [List.getElem?_toArray, List.getElem?_cons_succ, List.getElem?_cons_zero]; rfl) (by kernel_rfl) (by kernel_rfl) (fun K hK => ?_)
      (refine step_append_run (by rfl) _ _ _ (by rfl) _ _ _ (by rfl) (by rfl) R3B.out ?_)
      refine hK.out _ _ ?_ (fun hHeld => ?_)
      · (try dsimp only); first | done | (exact hS.out _ BB4.out)
      clear hK K
      try simp only [Act.put, List.setIfInBounds_toArray, List.set_cons_zero, List.set_cons_succ]
      refine HeldT.tail (by kernel_rfl) rfl ?_
  case' gB1 =>
    go_simp
    refine hK.out _ _ ?_ (fun hHeld => ?_)
    · (try dsimp only); first | done | (exact hS.out _ BS.out)
    clear hK K
    try simp only [Act.put, List.setIfInBounds_toArray, List.set_cons_zero, List.set_cons_succ]
    refine HeldT.one (i := 1) (by simp only [List.getElem?_toArray, List.getElem?_cons_succ, List.getElem?_cons_zero]; rfl) (by kernel_rfl) (by kernel_rfl) (fun K hK => ?_)
    go_simp
    refine hK.out _ _ ?_ (fun hHeld => ?_)
    · (try dsimp only); first | done | (exact hS.out _ BC.out)
    clear hK K
    try simp only [Act.put, List.setIfInBounds_toArray, List.set_cons_zero, List.set_cons_succ]
    refine HeldT.one (i := 11) (by simp only [List.getElem?_toArray, List.getElem?_cons_succ, List.getElem?_cons_zero]; rfl) (by kernel_rfl) (by kernel_rfl) (fun K hK => ?_)
    (refine step_append_run (by rfl) _ _ _ (by rfl) _ _ _ (by rfl) (by rfl) R1C.out ?_)
    refine hK.out _ _ ?_ (fun hHeld => ?_)
    · (try dsimp only); first | done | (exact hS.out _ BC2.out)
    clear hK K
    try simp only [Act.put, List.setIfInBounds_toArray, List.set_cons_zero, List.set_cons_succ]
    refine HeldT.one (i := 16) (by simp only [List.getElem?_toArray, List.getElem?_cons_succ, List.getElem?_cons_zero]; rfl) (by kernel_rfl) (by kernel_rfl) (fun K hK => ?_)
    (refine step_append_run (by rfl) _ _ _ (by rfl) _ _ _ (by rfl) (by rfl) R2C.out ?_)
    refine hK.out _ _ ?_ (fun hHeld => ?_)
    · (try dsimp only); first | done | (exact hS.out _ BC3.out)
    clear hK K
    try simp only [Act.put, List.setIfInBounds_toArray, List.set_cons_zero, List.set_cons_succ]
    refine HeldT.one (i := 27) (by simp only [List.getElem?_toArray, List.getElem?_cons_succ, List.getElem?_cons_zero]; rfl) (by kernel_rfl) (by kernel_rfl) (fun K hK => ?_)
    (refine step_append_run (by rfl) _ _ _ (by rfl) _ _ _ (by rfl) (by rfl) R3C.out ?_)
    refine hK.out _ _ ?_ (fun hHeld => ?_)
    · (try dsimp only); first | done | (exact hS.out _ BC4.out)
    clear hK K
    try simp only [Act.put, List.setIfInBounds_toArray, List.set_cons_zero, List.set_cons_succ]
    refine HeldT.tail (by kernel_rfl) rfl ?_
  all_goals clear hHeld
  all_goals go_wp2_with fail
  all_goals go_returns
  all_goals first
    | exact ⟨rfl, ⟨_, _, _, _, EA.out⟩, KA.out.set _ _⟩
    | exact ⟨rfl, ⟨_, _, _, _, EB.out⟩, KB.out.set _ _⟩
    | exact ⟨rfl, ⟨_, _, _, _, EC.out⟩, KC.out.set _ _⟩
end Go.Proofs.YtoimdbmjpkmkfaaDoor
