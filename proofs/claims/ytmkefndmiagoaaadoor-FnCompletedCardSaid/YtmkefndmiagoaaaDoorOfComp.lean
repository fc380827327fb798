/- impl.Completed: its closure, and the whole. -/
import Derived.Test.YtmkefndmiagoaaaDoorOfTree
import Derived.Test.YtmkefndmiagoaaaDoorHeldTail
import Derived.Test.YtmkefndmiagoaaaDoorCaught
namespace Go.Proofs.YtmkefndmiagoaaaDoor
open Go.RowKit
set_option linter.unusedVariables false
set_option linter.unusedSimpArgs false

theorem newPc_any (A : Option Addr) (n c : Nat) (w : World) : Calls Tryd.prog 21 #[.slice A n c] w (PcPost ⟨#[]⟩ (.slice A n c) w) := by
  have HP := Go.Lib.hid fun w => pcItem_any ⟨#[]⟩ A n c w (fun b hb => by simp at hb) (Nat.zero_le _)
  go_enter Tryd.func21, Tryd.ntmps21
  go_wp2_with fail
  refine (HP.out _).mono ?_
  rintro e w1 ⟨p, rfl, h1, h2, h3⟩
  have H1 := Go.Lib.hid h1
  have H2 := Go.Lib.hid h2
  have H3 := Go.Lib.hid h3
  clear h1 h2 h3
  go_wp2_with fail
  go_returns
  exact ⟨p, rfl, H1.out, H2.out, H3.out⟩

/-- What a line's completion is, from a completer with these children. -/
def DoesAt (A3 : Option Addr) (n c3 : Nat) (x : ByteArray) (L : List ByteArray) (m : Nat) (w : World) : Prop :=
  ∀ (W : World) (pb : Nat), Below w.heap.size w W → W.cell? ⟨pb, 3, none⟩ = some (.slice A3 n c3) → ∀ (A : Option Addr) (c : Nat), RuneRow W A (runes x) → x.size ≤ c → ∀ orig : Value,
    Calls Tryd.prog 27 #[pcV pb, .slice A x.size c, .int .i64 (x.size : Nat), orig] W (DoiPost W L m W)

theorem do_any (A3 : Option Addr) (n c3 : Nat) (x : ByteArray) (L : List ByteArray) (m : Nat) (w : World) (h : DoesAt A3 n c3 x L m w) (W : World) (pb : Nat) (hb : Below w.heap.size w W) (h3 : W.cell? ⟨pb, 3, none⟩ = some (.slice A3 n c3)) (A : Option Addr) (c : Nat) (hr : RuneRow W A (runes x)) (hc : x.size ≤ c) :
    Calls Tryd.prog 22 #[.pointer (some ⟨pb, 0, none⟩), .slice A x.size c, .int .i64 (x.size : Nat)] W (DoiPost W L m W) := by
  have HD := Go.Lib.hid (h W pb hb h3 A c hr hc (.slice A x.size c))
  clear h hb h3 hr hc
  go_enter Tryd.func22, Tryd.ntmps22
  go_wp2_with fail
  refine HD.out.mono ?_
  rintro e w1 ⟨v, ov, rfl, hq⟩
  have HQ := Go.Lib.hid hq
  clear hq
  go_wp2_with fail
  go_returns
  exact ⟨v, ov, rfl, HQ.out⟩

theorem RuneRow.setO {w : World} {A : Option Addr} {zs : List Int} (h : RuneRow w A zs) {a : Addr} {u : Value} (ha : w.cell? a = some u) (hu : ∀ z, u ≠ .int .i32 z) (v : Value) : RuneRow (w.setCell a v) A zs := fun j hj => by
  obtain ⟨g, o, e, hc⟩ := h j hj
  refine ⟨g, o, e, ?_⟩
  by_cases ea : (⟨g, o + j, none⟩ : Addr) = a
  · rw [← ea, hc] at ha
    injection ha with ha
    exact absurd ha.symm (hu _)
  · rw [World.cell?_setCell_other _ _ _ _ (by first | exact ea | exact fun e => ea e.symm)]
    exact hc
theorem RowsO.mono {w w' : World} {L : List ByteArray} {xs : List Value} (h : RowsO w L xs) (hb : Below w.heap.size w w') : RowsO w' L xs := ⟨h.1, fun j hj => by
  obtain ⟨g, o, c, h1, h2, h3, h4⟩ := h.2 j hj
  exact ⟨g, o, c, h1, h2, Nat.lt_of_lt_of_le h3 hb.size, h4.mono hb⟩⟩
theorem RowsO.setO {w : World} {L : List ByteArray} {xs : List Value} (h : RowsO w L xs) {a : Addr} {u : Value} (ha : w.cell? a = some u) (hu : ∀ z, u ≠ .int .i32 z) (v : Value) : RowsO (w.setCell a v) L xs := ⟨h.1, fun j hj => by
  obtain ⟨g, o, c, h1, h2, h3, h4⟩ := h.2 j hj
  exact ⟨g, o, c, h1, h2, by simpa [World.setCell] using h3, h4.setO ha hu v⟩⟩

theorem StQ.bel {w0 wb : World} {L : List ByteArray} {m : Nat} {v ov : Value} {wr : World} (h : StQ w0 wb L m v ov wr) : Below wb.heap.size wb wr := by
  obtain ⟨_, _, _, _, _, _, h5⟩ := h
  exact h5
theorem StQ.shape {w0 wb : World} {L : List ByteArray} {m : Nat} {v ov : Value} {wr : World} (h : StQ w0 wb L m v ov wr) : ∃ A c off, v = .slice A L.length c ∧ ov = .int .i64 (off : Nat) := by
  obtain ⟨off, xs, h1, _, h3, _⟩ := h
  obtain ⟨A, c, h⟩ := row_shape h3
  exact ⟨A, c, off, h, h1⟩
theorem ne_addr {a b : Nat} (h : a ≠ b) : (⟨a, 0, none⟩ : Addr) ≠ ⟨b, 0, none⟩ := fun e => h (by injection e)
/-- What a closure leaves alone: all but two variables. -/
structure Kept2 (G0 O0 : Nat) (w w' : World) : Prop where
  os : w'.os = w.os
  tape : w'.tape = w.tape
  output : w'.output = w.output
  size : w.heap.size ≤ w'.heap.size
  rest : ∀ k, k < w.heap.size → k ≠ G0 → k ≠ O0 → w'.heap[k]? = w.heap[k]?
def CclPost (G0 O0 : Nat) (L : List ByteArray) (m : Nat) (w w' : World) : Prop :=
  ∃ v off xs, w'.cell? ⟨G0, 0, none⟩ = some v ∧ w'.cell? ⟨O0, 0, none⟩ = some (.int .i64 (off : Nat)) ∧ w'.frozen? ⟨O0, 0, none⟩ = false ∧ (L ≠ [] → off = m) ∧ w'.ownsRow w.heap.size 51 1 v L.length xs ∧ RowsO w' L xs ∧ Kept2 G0 O0 w w'

theorem cl_post {G0 O0 : Nat} {L : List ByteArray} {m : Nat} {w wc w5 : World} {v ov : Value} (hq : StQ wc wc L m v ov w5) (hbw : Below w.heap.size w wc) (nGO : G0 ≠ O0) (lG : G0 < w.heap.size) (lO : O0 < w.heap.size)
    (cG : w.cell? ⟨G0, 0, none⟩ = some (.slice none 0 0)) (cO : w.cell? ⟨O0, 0, none⟩ = some (.int .i64 0)) (fO : w.frozen? ⟨O0, 0, none⟩ = false) : CclPost G0 O0 L m w ((w5.setCell ⟨G0, 0, none⟩ v).setCell ⟨O0, 0, none⟩ ov) := by
  obtain ⟨off, xs, rfl, h2, h3, h4, h5⟩ := hq
  have hb5 : Below w.heap.size w w5 := hbw.trans (h5.mono hbw.size)
  have g5 := (hb5.cell (p := ⟨G0, 0, none⟩) lG).trans cG
  have o5 := (hb5.cell (p := ⟨O0, 0, none⟩) lO).trans cO
  have of5 := (hb5.frozen (p := ⟨O0, 0, none⟩) lO).trans fO
  have o6 : (w5.setCell ⟨G0, 0, none⟩ v).cell? ⟨O0, 0, none⟩ = some (.int .i64 0) := by
    rw [World.cell?_setCell_other _ _ _ _ (by intro e; have := congrArg Addr.block e; simp at this; omega)]; exact o5
  refine ⟨v, off, xs, ?_, World.cell?_setCell_same' _ _ _ (by rw [o6]; rfl), by rw [World.frozen?_setCell, World.frozen?_setCell]; exact of5, h2, ?_, ((h4.mono h5).setO g5 (fun z e => by cases e) _).setO o6 (fun z e => by cases e) _, ?_⟩
  · rw [World.cell?_setCell_other _ _ _ _ (by intro e; have := congrArg Addr.block e; simp at this; omega)]
    exact World.cell?_setCell_same' _ _ _ (by rw [g5]; rfl)
  · have hge : w.heap.size ≤ wc.heap.size := hbw.size
    have h6 : w5.ownsRow w.heap.size 51 1 v L.length xs := ⟨h3.1, h3.2.imp id fun ⟨g, cap, cur, a1, a2, a3⟩ => ⟨g, cap, cur, a1, by omega, a3⟩⟩
    exact ownsRow_setCell_below (ownsRow_setCell_below h6 (by exact lG) _) (by exact lO) _
  · refine ⟨hb5.os, hb5.tape, hb5.output, by simpa [World.setCell] using hb5.size, fun k hk h1 h2 => ?_⟩
    rw [Below.heap_setCell _ _ _ _ (by exact h2), Below.heap_setCell _ _ _ _ (by exact h1)]
    exact hb5.block k hk

set_option maxRecDepth 100000 in
set_option maxHeartbeats 1000000 in
theorem completed_cl (K0 S0 P0 G0 O0 : Nat) (A3 : Option Addr) (n c3 : Nat) (x : ByteArray) (L : List ByteArray) (m : Nat) (w : World) (hx : IsAscii x) (hxz : x.size ≤ 100)
    (cK : w.cell? ⟨K0, 0, none⟩ = some (.slice A3 n c3)) (cS : w.cell? ⟨S0, 0, none⟩ = some (.string x)) (cP : w.cell? ⟨P0, 0, none⟩ = some (.int .i64 (x.size : Nat)))
    (cG : w.cell? ⟨G0, 0, none⟩ = some (.slice none 0 0)) (fG : w.frozen? ⟨G0, 0, none⟩ = false) (cO : w.cell? ⟨O0, 0, none⟩ = some (.int .i64 0)) (fO : w.frozen? ⟨O0, 0, none⟩ = false) (nGO : G0 ≠ O0) (nK : G0 ≠ K0) (nS : G0 ≠ S0) (nP : G0 ≠ P0) (h : DoesAt A3 n c3 x L m w) :
    Calls Tryd.prog 20 #[.pointer (some ⟨K0, 0, none⟩), .pointer (some ⟨S0, 0, none⟩), .pointer (some ⟨P0, 0, none⟩), .pointer (some ⟨G0, 0, none⟩), .pointer (some ⟨O0, 0, none⟩)] w fun e w' => e = .returned (.tuple #[]) ∧ CclPost G0 O0 L m w w' := by
  have lK := lt_of_cell cK
  have lS := lt_of_cell cS
  have lP := lt_of_cell cP
  have lG := lt_of_cell cG
  have lO := lt_of_cell cO
  have HK : Hid (∀ W : World, Below w.heap.size w W → W.cell? ⟨K0, 0, none⟩ = some (.slice A3 n c3) ∧ W.cell? ⟨S0, 0, none⟩ = some (.string x) ∧ W.cell? ⟨P0, 0, none⟩ = some (.int .i64 (x.size : Nat))) := fun W hW =>
    ⟨(hW.cell (p := ⟨K0, 0, none⟩) lK).trans cK, (hW.cell (p := ⟨S0, 0, none⟩) lS).trans cS, (hW.cell (p := ⟨P0, 0, none⟩) lP).trans cP⟩
  have HG : Hid (∀ W : World, Below w.heap.size w W → W.cell? ⟨G0, 0, none⟩ = some (.slice none 0 0) ∧ W.frozen? ⟨G0, 0, none⟩ = false ∧ W.cell? ⟨O0, 0, none⟩ = some (.int .i64 0) ∧ W.frozen? ⟨O0, 0, none⟩ = false) := fun W hW =>
    ⟨(hW.cell (p := ⟨G0, 0, none⟩) lG).trans cG, (hW.frozen (p := ⟨G0, 0, none⟩) lG).trans fG, (hW.cell (p := ⟨O0, 0, none⟩) lO).trans cO, (hW.frozen (p := ⟨O0, 0, none⟩) lO).trans fO⟩
  have HNP := Go.Lib.hid (newPc_any A3 n c3)
  have HDO := Go.Lib.hid (do_any A3 n c3 x L m w h)
  have hrl := runes_ascii_length x hx
  have HRR : Hid (∀ W : World, RuneRow (W.alloc (.cells (runeCells x (runeCap W 21 x)) 21)) (some ⟨W.heap.size, 0, none⟩) (runes x)) := fun W => RuneRow.of fun j hj => by
    have := runeCells_at x (runeCap W 21 x) j hj
    simpa [go_sem] using this
  have HCP : Hid (∀ W : World, x.size ≤ runeCap W 21 x) := fun W => by have := runeCap_ge W 21 x; rw [hrl] at this; exact this
  have hcv := fun W => run_runes (P := Tryd.prog) W 9 51 21 x Tryd.underlying9 Tryd.underlying51 Tryd.underlying21 (by omega)
  rw [hrl] at hcv
  obtain ⟨capf, hcapf⟩ : ∃ f : World → Nat, f = fun W => runeCap W 21 x := ⟨_, rfl⟩
  obtain ⟨celf, hcelf⟩ : ∃ f : World → Array Value, f = fun W => runeCells x (runeCap W 21 x) := ⟨_, rfl⟩
  have hcv2 : ∀ W, (convert 9 51 (.string x)).run Tryd.prog W = .ok (.slice (some ⟨W.heap.size, 0, none⟩) x.size (capf W)) (W.alloc (.cells (celf W) 21)).drew := by
    rw [hcapf, hcelf]; exact hcv
  have HRR2 : Hid (∀ W : World, RuneRow (W.alloc (.cells (celf W) 21)) (some ⟨W.heap.size, 0, none⟩) (runes x)) := by rw [hcelf]; exact HRR.out
  have HCP2 : Hid (∀ W : World, x.size ≤ capf W) := by rw [hcapf]; exact HCP.out
  have HCG := Go.Lib.hid (And.intro cG (And.intro cO fO))
  clear hcv hcapf hcelf HRR HCP hrl h fG fO cG cO hx
  go_enter Tryd.func20, Tryd.ntmps20
  go_wp2_with fail
  have bcur : Below w.heap.size w w.drew := (Below.refl _ _).drew
  have HRB : Hid (∀ w2, Below ((w.alloc (.cells (celf w.drew) 21)).drew.drew).heap.size ((w.alloc (.cells (celf w.drew) 21)).drew.drew) w2 → RuneRow w2 (some ⟨w.heap.size, 0, none⟩) (runes x)) := fun w2 h => (show RuneRow (w.alloc (.cells (celf w.drew) 21)).drew.drew (some ⟨w.heap.size, 0, none⟩) (runes x) from HRR2.out w.drew).mono h
  have HRA : Hid (∀ w2 : World, RuneRow (w2.alloc (.cells (celf w2) 21)).drew (some ⟨w2.heap.size, 0, none⟩) (runes x)) := fun w2 => HRR2.out w2
  have HPA : Hid (∀ (w2 : World) (p : Nat) (u : Value), w2.cell? ⟨p, 3, none⟩ = some u → (w2.alloc (.cells (celf w2) 21)).drew.cell? ⟨p, 3, none⟩ = some u) := fun w2 p u h => (((Below.refl w2.heap.size w2).alloc (Nat.le_refl _) _).drew.cell (p := ⟨p, 3, none⟩) (lt_of_cell h)).trans h
  refine region_held_tail 10 (S := (fun w' => w'.cell? ⟨K0, 0, none⟩ = some (.slice A3 n c3) ∧ w'.cell? ⟨S0, 0, none⟩ = some (.string x) ∧ w'.cell? ⟨P0, 0, none⟩ = some (.int .i64 (x.size : Nat)))) (by kernel_rfl) (by kernel_rfl) ?_ (fun hHeld => ?_)
  · (try dsimp only); first | done | (first | (with_reducible exact s9) | (with_reducible exact s5) | (with_reducible exact HK.out _ bcur) | (with_reducible exact HK.out _ ((Below.refl w.heap.size w).alloc (Nat.le_refl _) _).drew.drew) | (with_reducible exact HK.out _ (bcur.alloc bcur.size _).drew))
  refine HeldT.take (i := 0) (v := ?_) (by simp only [List.getElem?_toArray, List.getElem?_cons_succ, List.getElem?_cons_zero]; rfl) (by kernel_rfl) (by kernel_rfl) (by kernel_rfl) (by kernel_rfl) (by exact fun _ _ _ h => h) ?_ (by assumption) ?_
  rotate_left
  · refine Or.inl ⟨by rfl, ?_⟩
    (intro w hSw; (try dsimp only at hSw); go_simp; try with_reducible rfl)
  try simp only [Act.put, List.setIfInBounds_toArray, List.set_cons_zero, List.set_cons_succ]
  refine HeldT.take (i := 2) (v := ?_) (by simp only [List.getElem?_toArray, List.getElem?_cons_succ, List.getElem?_cons_zero]; rfl) (by kernel_rfl) (by kernel_rfl) (by kernel_rfl) (by kernel_rfl) (by exact fun _ _ _ h => h) ?_ (by assumption) ?_
  rotate_left
  · refine Or.inl ⟨by rfl, ?_⟩
    (intro w hSw; (try dsimp only at hSw); go_simp; try with_reducible rfl)
  try simp only [Act.put, List.setIfInBounds_toArray, List.set_cons_zero, List.set_cons_succ]
  refine HeldT.take (i := 4) (v := ?_) (by simp only [List.getElem?_toArray, List.getElem?_cons_succ, List.getElem?_cons_zero]; rfl) (by kernel_rfl) (by kernel_rfl) (by kernel_rfl) (by kernel_rfl) (by exact fun _ _ _ h => h) ?_ (by assumption) ?_
  rotate_left
  · refine Or.inl ⟨by rfl, ?_⟩
    (intro w hSw; (try dsimp only at hSw); go_simp; try with_reducible rfl)
  try simp only [Act.put, List.setIfInBounds_toArray, List.set_cons_zero, List.set_cons_succ]
  refine HeldT.two (i := 1) (k := 3) (by simp only [List.getElem?_toArray, List.getElem?_cons_succ, List.getElem?_cons_zero]; rfl) (by simp only [List.getElem?_toArray, List.getElem?_cons_succ, List.getElem?_cons_zero]; rfl) (by kernel_rfl) (by kernel_rfl) (by kernel_rfl) (fun K hK => ?gA) (fun K hK => ?gB)
  case' gA =>
    go_simp
    ((refine (HNP.out _).mono ?_); rintro e w2 ⟨p, rfl, -, hp3, b2o⟩; have bnew : Below w.heap.size w w2 := (by first | (with_reducible exact bcur.trans (b2o.mono bcur.size)) | (with_reducible exact (((Below.refl w.heap.size w).alloc (Nat.le_refl _) _).drew.drew).trans (b2o.mono (by simp)))); clear bcur; have bcur := bnew)
    try go_wp2_with fail
    refine hK.out _ _ ?_ (fun hHeld => ?_)
    · (try dsimp only); first | done | (first | (with_reducible exact s9) | (with_reducible exact s5) | (with_reducible exact HK.out _ bcur) | (with_reducible exact HK.out _ ((Below.refl w.heap.size w).alloc (Nat.le_refl _) _).drew.drew) | (with_reducible exact HK.out _ (bcur.alloc bcur.size _).drew))
    clear hK K
    try simp only [Act.put, List.setIfInBounds_toArray, List.set_cons_zero, List.set_cons_succ]
    refine HeldT.one (i := 3) (by simp only [List.getElem?_toArray, List.getElem?_cons_succ, List.getElem?_cons_zero]; rfl) (by kernel_rfl) (by kernel_rfl) (fun K hK => ?_)
    go_simp
    (skip)
    try go_wp2_with fail
    refine hK.out _ _ ?_ (fun hHeld => ?_)
    · (try dsimp only); first | done | (first | (with_reducible exact s9) | (with_reducible exact s5) | (with_reducible exact HK.out _ bcur) | (with_reducible exact HK.out _ ((Below.refl w.heap.size w).alloc (Nat.le_refl _) _).drew.drew) | (with_reducible exact HK.out _ (bcur.alloc bcur.size _).drew))
    clear hK K
    try simp only [Act.put, List.setIfInBounds_toArray, List.set_cons_zero, List.set_cons_succ]
  case' gB =>
    go_simp
    (skip)
    try go_wp2_with fail
    refine hK.out _ _ ?_ (fun hHeld => ?_)
    · (try dsimp only); first | done | (first | (with_reducible exact s9) | (with_reducible exact s5) | (with_reducible exact HK.out _ bcur) | (with_reducible exact HK.out _ ((Below.refl w.heap.size w).alloc (Nat.le_refl _) _).drew.drew) | (with_reducible exact HK.out _ (bcur.alloc bcur.size _).drew))
    clear hK K
    try simp only [Act.put, List.setIfInBounds_toArray, List.set_cons_zero, List.set_cons_succ]
    refine HeldT.one (i := 1) (by simp only [List.getElem?_toArray, List.getElem?_cons_succ, List.getElem?_cons_zero]; rfl) (by kernel_rfl) (by kernel_rfl) (fun K hK => ?_)
    go_simp
    ((refine (HNP.out _).mono ?_); rintro e w2 ⟨p, rfl, -, hp3, b2o⟩; have bnew : Below w.heap.size w w2 := (by first | (with_reducible exact bcur.trans (b2o.mono bcur.size)) | (with_reducible exact (((Below.refl w.heap.size w).alloc (Nat.le_refl _) _).drew.drew).trans (b2o.mono (by simp)))); clear bcur; have bcur := bnew)
    try go_wp2_with fail
    refine hK.out _ _ ?_ (fun hHeld => ?_)
    · (try dsimp only); first | done | (first | (with_reducible exact s9) | (with_reducible exact s5) | (with_reducible exact HK.out _ bcur) | (with_reducible exact HK.out _ ((Below.refl w.heap.size w).alloc (Nat.le_refl _) _).drew.drew) | (with_reducible exact HK.out _ (bcur.alloc bcur.size _).drew))
    clear hK K
    try simp only [Act.put, List.setIfInBounds_toArray, List.set_cons_zero, List.set_cons_succ]
  all_goals
    refine HeldT.one (i := 5) (by simp only [List.getElem?_toArray, List.getElem?_cons_succ, List.getElem?_cons_zero]; rfl) (by kernel_rfl) (by kernel_rfl) (fun K hK => ?_)
    go_simp
    ((first | (with_reducible refine (HDO.out _ p (bcur.alloc bcur.size _).drew (HPA.out _ _ _ hp3) _ _ (HRA.out w2) (HCP2.out w2)).mono ?_) | (with_reducible refine (HDO.out _ p bcur hp3 _ _ (HRB.out _ b2o) (HCP2.out _)).mono ?_)); rintro e w5 ⟨v, ov, rfl, hq⟩; obtain ⟨A9, c9, off9, hv9, hov9⟩ := hq.shape; subst hv9 hov9; have hcl : Below w.heap.size w w5 ∧ CclPost G0 O0 L m w ((w5.setCell ⟨G0, 0, none⟩ (.slice A9 L.length c9)).setCell ⟨O0, 0, none⟩ (.int .i64 (off9 : Nat))) := (by first | (with_reducible exact ⟨bcur.trans (hq.bel.mono bcur.size), cl_post hq bcur nGO lG lO HCG.out.1 HCG.out.2.1 HCG.out.2.2⟩) | exact ⟨((bcur.alloc bcur.size _).drew).trans (hq.bel.mono (bcur.alloc bcur.size _).drew.size), cl_post hq (bcur.alloc bcur.size _).drew nGO lG lO HCG.out.1 HCG.out.2.1 HCG.out.2.2⟩); have HCP9 := Go.Lib.hid hcl.2; have hb5 := hcl.1; obtain ⟨g51, g52, o51, o52⟩ := HG.out w5 hb5; have s5 := HK.out w5 hb5; have s9 : (w5.setCell ⟨G0, 0, none⟩ (.slice A9 L.length c9)).cell? ⟨K0, 0, none⟩ = some (.slice A3 n c3) ∧ (w5.setCell ⟨G0, 0, none⟩ (.slice A9 L.length c9)).cell? ⟨S0, 0, none⟩ = some (.string x) ∧ (w5.setCell ⟨G0, 0, none⟩ (.slice A9 L.length c9)).cell? ⟨P0, 0, none⟩ = some (.int .i64 (x.size : Nat)) := ⟨(World.cell?_setCell_other _ _ _ _ (ne_addr nK)).trans s5.1, (World.cell?_setCell_other _ _ _ _ (ne_addr nS)).trans s5.2.1, (World.cell?_setCell_other _ _ _ _ (ne_addr nP)).trans s5.2.2⟩; have o61 := (World.cell?_setCell_other w5 ⟨G0, 0, none⟩ ⟨O0, 0, none⟩ (.slice A9 L.length c9) (ne_addr nGO)).trans o51; clear hq hcl)
    try go_wp2_with fail
    refine hK.out _ _ ?_ (fun hHeld => ?_)
    · (try dsimp only); first | done | (first | (with_reducible exact s9) | (with_reducible exact s5) | (with_reducible exact HK.out _ bcur) | (with_reducible exact HK.out _ ((Below.refl w.heap.size w).alloc (Nat.le_refl _) _).drew.drew) | (with_reducible exact HK.out _ (bcur.alloc bcur.size _).drew))
    clear hK K
    try simp only [Act.put, List.setIfInBounds_toArray, List.set_cons_zero, List.set_cons_succ]
    refine HeldT.take (i := 6) (v := ?_) (by simp only [List.getElem?_toArray, List.getElem?_cons_succ, List.getElem?_cons_zero]; rfl) (by kernel_rfl) (by kernel_rfl) (by kernel_rfl) (by kernel_rfl) (by exact fun _ _ _ h => h) ?_ (by assumption) ?_
    rotate_left
    · refine Or.inl ⟨by rfl, ?_⟩
      (intro w hSw; (try dsimp only at hSw); go_simp; try with_reducible rfl)
    try simp only [Act.put, List.setIfInBounds_toArray, List.set_cons_zero, List.set_cons_succ]
    refine HeldT.take (i := 7) (v := ?_) (by simp only [List.getElem?_toArray, List.getElem?_cons_succ, List.getElem?_cons_zero]; rfl) (by kernel_rfl) (by kernel_rfl) (by kernel_rfl) (by kernel_rfl) (by exact fun _ _ _ h => h) ?_ (by assumption) ?_
    rotate_left
    · refine Or.inl ⟨by rfl, ?_⟩
      (intro w hSw; (try dsimp only at hSw); go_simp; try with_reducible rfl)
    try simp only [Act.put, List.setIfInBounds_toArray, List.set_cons_zero, List.set_cons_succ]
    refine HeldT.take (i := 8) (v := ?_) (by simp only [List.getElem?_toArray, List.getElem?_cons_succ, List.getElem?_cons_zero]; rfl) (by kernel_rfl) (by kernel_rfl) (by kernel_rfl) (by kernel_rfl) (by exact fun _ _ _ h => h) ?_ (by assumption) ?_
    rotate_left
    · refine Or.inl ⟨by rfl, ?_⟩
      (intro w hSw; (try dsimp only at hSw); go_simp; try with_reducible rfl)
    try simp only [Act.put, List.setIfInBounds_toArray, List.set_cons_zero, List.set_cons_succ]
    refine HeldT.one (i := 9) (by simp only [List.getElem?_toArray, List.getElem?_cons_succ, List.getElem?_cons_zero]; rfl) (by kernel_rfl) (by kernel_rfl) (fun K hK => ?_)
    go_simp
    refine hK.out _ _ ?_ (fun hHeld => ?_)
    · (try dsimp only); first | done | (first | (with_reducible exact s9) | (with_reducible exact s5) | (with_reducible exact HK.out _ bcur) | (with_reducible exact HK.out _ ((Below.refl w.heap.size w).alloc (Nat.le_refl _) _).drew.drew) | (with_reducible exact HK.out _ (bcur.alloc bcur.size _).drew))
    clear hK K
    try simp only [Act.put, List.setIfInBounds_toArray, List.set_cons_zero, List.set_cons_succ]
    refine HeldT.tail (by kernel_rfl) rfl ?_
  all_goals go_wp2_with fail
  all_goals go_returns
  all_goals exact ⟨rfl, HCP9.out⟩
end Go.Proofs.YtmkefndmiagoaaaDoor
