/- (*bytes.Buffer).grow of a buffer without a row by more than 64; Write of many bytes into an empty one. -/
import Derived.Test.YtbibokkclejapaaDoorIndPut
import Derived.Test.YtbibokkclejapaaDoorIndBytes
namespace Go.Proofs.YtbibokkclejapaaDoor
open Go.RowKit
set_option linter.unusedVariables false
set_option linter.unusedSimpArgs false

set_option maxRecDepth 100000 in
set_option maxHeartbeats 2000000 in
theorem grow_big (b q n : Nat) (w : World) (c0 : w.cell? ⟨b, q, none⟩ = some (.slice none 0 0)) (c1 : w.cell? ⟨b, q + 1, none⟩ = some (.int .i64 0)) (f : ∀ j, w.frozen? ⟨b, j, none⟩ = false) (hn : 65 ≤ n) (hn2 : n ≤ 1000000) :
    Calls Tryd.prog 61 #[.pointer (some ⟨b, q, none⟩), .int .i64 (n : Nat)] w (GrowPost b q n [] w) := by
  have hz := lt_of_cell c0
  have HLEN := Go.Lib.hid (len_at b q none 0 0 w c0 c1 (Nat.zero_le _))
  have HGS := Go.Lib.hid fun W => Tryd.bytes_growSlice_nil n W (by omega) (by omega)
  have HF := Go.Lib.hid f
  go_enter Tryd.func61, Tryd.ntmps61
  go_wp2_with fail
  refine HLEN.out.mono ?_
  rintro e w1 ⟨rfl, nq, hw1⟩
  have hb1 : Below w.heap.size w w1 := by rw [hw1]; exact below_drewN (Below.refl _ _) nq
  have HK1 : Hid (KeptB b q w w1) := .of hb1 hz
  replace c0 := (hb1.cell (p := ⟨b, q, none⟩) hz).trans c0
  replace c1 := (hb1.cell (p := ⟨b, q + 1, none⟩) hz).trans c1
  have f1 : ∀ j, w1.frozen? ⟨b, j, none⟩ = false := fun j => (hb1.frozen (p := ⟨b, j, none⟩) hz).trans (HF.out j)
  have fq := f1 q
  have fq1 := f1 (q + 1)
  have hz1 : b < w1.heap.size := Nat.lt_of_lt_of_le hz hb1.size
  have HSZ := Go.Lib.hid hb1.size
  clear hw1 hb1 f f1 HF
  have htn := Go.Lib.hid (try_none b q none 0 0 n w1 c0 (Nat.le_refl _) (by omega) (by unfold maxLen; omega))
  have hnil : ∀ W, (binOp .eql 51 (.slice none 0 0) (.slice none 0 0)).run Tryd.prog W = .ok (.bool true) W := fun W => by kernel_rfl
  have h64 : ¬ ((n : Int) ≤ 64) := by omega
  have h00 : ¬ ((n : Int) ≤ 0) := by omega
  go_wp2_with fail
  refine htn.out.mono ?_
  rintro e w2 ⟨rfl, rfl⟩
  have hfr := all_run none 0 0
  have hwn : IntKind.i64.wrap (n : Int) = (n : Nat) := IntWalk.i64_in _ (by omega)
  have k0 := c0
  have k1 := c1
  go_wp2_with fail
  refine region_held_tail 17 (S := (fun w' => w'.cell? ⟨b, q, none⟩ = some (.slice none 0 0) ∧ w'.cell? ⟨b, q + 1, none⟩ = some (.int .i64 0))) (by kernel_rfl) (by kernel_rfl) ?_ (fun hHeld => ?_)
  · (try dsimp only); first | done | (first | exact ⟨k0, k1⟩ | exact ⟨r0, r1⟩)
  refine HeldT.take (i := 0) (v := ?_) (by simp only [List.getElem?_toArray, List.getElem?_cons_succ, List.getElem?_cons_zero]; rfl) (by kernel_rfl) (by kernel_rfl) (by kernel_rfl) (by kernel_rfl) (by exact fun _ _ _ h => h) ?_ (by assumption) ?_
  rotate_left
  · refine Or.inl ⟨by rfl, ?_⟩
    (intro w hSw; (try dsimp only at hSw); go_simp; try with_reducible rfl)
  try simp only [Act.put, List.setIfInBounds_toArray, List.set_cons_zero, List.set_cons_succ]
  refine HeldT.take (i := 1) (v := ?_) (by simp only [List.getElem?_toArray, List.getElem?_cons_succ, List.getElem?_cons_zero]; rfl) (by kernel_rfl) (by kernel_rfl) (by kernel_rfl) (by kernel_rfl) (by exact fun _ _ _ h => h) ?_ (by assumption) ?_
  rotate_left
  · refine Or.inl ⟨by rfl, ?_⟩
    (intro w hSw; (try dsimp only at hSw); go_simp; try with_reducible rfl)
  try simp only [Act.put, List.setIfInBounds_toArray, List.set_cons_zero, List.set_cons_succ]
  refine HeldT.take (i := 2) (v := ?_) (by simp only [List.getElem?_toArray, List.getElem?_cons_succ, List.getElem?_cons_zero]; rfl) (by kernel_rfl) (by kernel_rfl) (by kernel_rfl) (by kernel_rfl) (by exact fun _ _ _ h => h) ?_ (by assumption) ?_
  rotate_left
  · refine Or.inl ⟨by rfl, ?_⟩
    (intro w hSw; (try dsimp only at hSw); go_simp; try with_reducible rfl)
  try simp only [Act.put, List.setIfInBounds_toArray, List.set_cons_zero, List.set_cons_succ]
  refine HeldT.take (i := 3) (v := ?_) (by simp only [List.getElem?_toArray, List.getElem?_cons_succ, List.getElem?_cons_zero]; rfl) (by kernel_rfl) (by kernel_rfl) (by kernel_rfl) (by kernel_rfl) (by exact fun _ _ _ h => h) ?_ (by assumption) ?_
  rotate_left
  · refine Or.inl ⟨by rfl, ?_⟩
    (intro w hSw; (try dsimp only at hSw); go_simp; try with_reducible rfl)
  try simp only [Act.put, List.setIfInBounds_toArray, List.set_cons_zero, List.set_cons_succ]
  refine HeldT.take (i := 4) (v := ?_) (by simp only [List.getElem?_toArray, List.getElem?_cons_succ, List.getElem?_cons_zero]; rfl) (by kernel_rfl) (by kernel_rfl) (by kernel_rfl) (by kernel_rfl) (by exact fun _ _ _ h => h) ?_ (by assumption) ?_
  rotate_left
  · refine Or.inl ⟨by rfl, ?_⟩
    (intro w hSw; (try dsimp only at hSw); go_simp; try with_reducible rfl)
  try simp only [Act.put, List.setIfInBounds_toArray, List.set_cons_zero, List.set_cons_succ]
  refine HeldT.take (i := 5) (v := ?_) (by simp only [List.getElem?_toArray, List.getElem?_cons_succ, List.getElem?_cons_zero]; rfl) (by kernel_rfl) (by kernel_rfl) (by kernel_rfl) (by kernel_rfl) (by exact fun _ _ _ h => h) ?_ (by assumption) ?_
  rotate_left
  · refine Or.inl ⟨by rfl, ?_⟩
    (intro w hSw; (try dsimp only at hSw); go_simp; try with_reducible rfl)
  try simp only [Act.put, List.setIfInBounds_toArray, List.set_cons_zero, List.set_cons_succ]
  refine HeldT.take (i := 6) (v := ?_) (by simp only [List.getElem?_toArray, List.getElem?_cons_succ, List.getElem?_cons_zero]; rfl) (by kernel_rfl) (by kernel_rfl) (by kernel_rfl) (by kernel_rfl) (by exact fun _ _ _ h => h) ?_ (by assumption) ?_
  rotate_left
  · refine Or.inl ⟨by rfl, ?_⟩
    (intro w hSw; (try dsimp only at hSw); go_simp; try with_reducible rfl)
  try simp only [Act.put, List.setIfInBounds_toArray, List.set_cons_zero, List.set_cons_succ]
  refine HeldT.take (i := 7) (v := ?_) (by simp only [List.getElem?_toArray, List.getElem?_cons_succ, List.getElem?_cons_zero]; rfl) (by kernel_rfl) (by kernel_rfl) (by kernel_rfl) (by kernel_rfl) (by exact fun _ _ _ h => h) ?_ (by assumption) ?_
  rotate_left
  · refine Or.inl ⟨by rfl, ?_⟩
    (intro w hSw; (try dsimp only at hSw); go_simp; try with_reducible rfl)
  try simp only [Act.put, List.setIfInBounds_toArray, List.set_cons_zero, List.set_cons_succ]
  refine HeldT.take (i := 8) (v := ?_) (by simp only [List.getElem?_toArray, List.getElem?_cons_succ, List.getElem?_cons_zero]; rfl) (by kernel_rfl) (by kernel_rfl) (by kernel_rfl) (by kernel_rfl) (by exact fun _ _ _ h => h) ?_ (by assumption) ?_
  rotate_left
  · refine Or.inl ⟨by rfl, ?_⟩
    (intro w hSw; (try dsimp only at hSw); go_simp; try with_reducible rfl)
  try simp only [Act.put, List.setIfInBounds_toArray, List.set_cons_zero, List.set_cons_succ]
  refine HeldT.take (i := 9) (v := ?_) (by simp only [List.getElem?_toArray, List.getElem?_cons_succ, List.getElem?_cons_zero]; rfl) (by kernel_rfl) (by kernel_rfl) (by kernel_rfl) (by kernel_rfl) (by exact fun _ _ _ h => h) ?_ (by assumption) ?_
  rotate_left
  · refine Or.inl ⟨by rfl, ?_⟩
    (intro w hSw; (try dsimp only at hSw); go_simp; try with_reducible rfl)
  try simp only [Act.put, List.setIfInBounds_toArray, List.set_cons_zero, List.set_cons_succ]
  refine HeldT.take (i := 10) (v := ?_) (by simp only [List.getElem?_toArray, List.getElem?_cons_succ, List.getElem?_cons_zero]; rfl) (by kernel_rfl) (by kernel_rfl) (by kernel_rfl) (by kernel_rfl) (by exact fun _ _ _ h => h) ?_ (by assumption) ?_
  rotate_left
  · refine Or.inl ⟨by rfl, ?_⟩
    (intro w hSw; (try dsimp only at hSw); go_simp; try with_reducible rfl)
  try simp only [Act.put, List.setIfInBounds_toArray, List.set_cons_zero, List.set_cons_succ]
  refine HeldT.take (i := 11) (v := ?_) (by simp only [List.getElem?_toArray, List.getElem?_cons_succ, List.getElem?_cons_zero]; rfl) (by kernel_rfl) (by kernel_rfl) (by kernel_rfl) (by kernel_rfl) (by exact fun _ _ _ h => h) ?_ (by assumption) ?_
  rotate_left
  · refine Or.inl ⟨by rfl, ?_⟩
    (intro w hSw; (try dsimp only at hSw); go_simp; try with_reducible rfl)
  try simp only [Act.put, List.setIfInBounds_toArray, List.set_cons_zero, List.set_cons_succ]
  refine HeldT.take (i := 12) (v := ?_) (by simp only [List.getElem?_toArray, List.getElem?_cons_succ, List.getElem?_cons_zero]; rfl) (by kernel_rfl) (by kernel_rfl) (by kernel_rfl) (by kernel_rfl) (by exact fun _ _ _ h => h) ?_ (by assumption) ?_
  rotate_left
  · refine Or.inl ⟨by rfl, ?_⟩
    (intro w hSw; (try dsimp only at hSw); go_simp; try with_reducible rfl)
  try simp only [Act.put, List.setIfInBounds_toArray, List.set_cons_zero, List.set_cons_succ]
  refine HeldT.take (i := 13) (v := ?_) (by simp only [List.getElem?_toArray, List.getElem?_cons_succ, List.getElem?_cons_zero]; rfl) (by kernel_rfl) (by kernel_rfl) (by kernel_rfl) (by kernel_rfl) (by exact fun _ _ _ h => h) ?_ (by assumption) ?_
  rotate_left
  · refine Or.inl ⟨by rfl, ?_⟩
    (intro w hSw; (try dsimp only at hSw); go_simp; try with_reducible rfl)
  try simp only [Act.put, List.setIfInBounds_toArray, List.set_cons_zero, List.set_cons_succ]
  refine HeldT.take (i := 14) (v := ?_) (by simp only [List.getElem?_toArray, List.getElem?_cons_succ, List.getElem?_cons_zero]; rfl) (by kernel_rfl) (by kernel_rfl) (by kernel_rfl) (by kernel_rfl) (by exact fun _ _ _ h => h) ?_ (by assumption) ?_
  rotate_left
  · refine Or.inl ⟨by rfl, ?_⟩
    (intro w hSw; (try dsimp only at hSw); go_simp; try with_reducible rfl)
  try simp only [Act.put, List.setIfInBounds_toArray, List.set_cons_zero, List.set_cons_succ]
  refine HeldT.take (i := 15) (v := ?_) (by simp only [List.getElem?_toArray, List.getElem?_cons_succ, List.getElem?_cons_zero]; rfl) (by kernel_rfl) (by kernel_rfl) (by kernel_rfl) (by kernel_rfl) (by exact fun _ _ _ h => h) ?_ (by assumption) ?_
  rotate_left
  · refine Or.inl ⟨by rfl, ?_⟩
    (intro w hSw; (try dsimp only at hSw); go_simp; try with_reducible rfl)
  try simp only [Act.put, List.setIfInBounds_toArray, List.set_cons_zero, List.set_cons_succ]
  refine HeldT.one (i := 16) (by simp only [List.getElem?_toArray, List.getElem?_cons_succ, List.getElem?_cons_zero]; rfl) (by kernel_rfl) (by kernel_rfl) (fun K hK => ?_)
  go_simp
  ((refine (HGS.out w1.drew).mono ?_); rintro e w3 ⟨cap2, cells, rfl, ha, hb, hd, he, hbel⟩; have hbel1 : Below w1.heap.size w1 w3 := (Below.refl w1.heap.size w1).drew.trans hbel; have r0 := (hbel1.cell (p := ⟨b, q, none⟩) hz1).trans k0; have r1 := (hbel1.cell (p := ⟨b, q + 1, none⟩) hz1).trans k1; have rf0 := (hbel1.frozen (p := ⟨b, q, none⟩) hz1).trans fq; have rf1 := (hbel1.frozen (p := ⟨b, q + 1, none⟩) hz1).trans fq1; have HBEL := Go.Lib.hid hbel1; have HA := Go.Lib.hid (And.intro ha (And.intro hb (And.intro hd he))); clear hbel ha hb)
  try go_wp2_with fail
  refine hK.out _ _ ?_ (fun hHeld => ?_)
  · (try dsimp only); first | done | (first | exact ⟨k0, k1⟩ | exact ⟨r0, r1⟩)
  clear hK K
  try simp only [Act.put, List.setIfInBounds_toArray, List.set_cons_zero, List.set_cons_succ]
  refine HeldT.tail (by kernel_rfl) rfl ?_
  clear hHeld
  have hz3 : b < w3.heap.size := Nat.lt_of_lt_of_le hz1 HBEL.out.size
  have t1 := (World.cell?_setCell_other w3 ⟨b, q, none⟩ ⟨b, q + 1, none⟩ (.slice (some ⟨w1.heap.size, 0, none⟩) 0 cap2) (by intro e; injection e with _ e2; omega)).trans r1
  have hup := upto_run (some ⟨w1.heap.size, 0, none⟩) 0 cap2 n (n : Int) rfl hd
  go_wp2_with fail
  go_returns
  obtain ⟨ha, hb, hd', he'⟩ := HA.out
  obtain ⟨X, hX⟩ : ∃ X, X = w3.setCell ⟨b, q, none⟩ (.slice (some ⟨w1.heap.size, 0, none⟩) 0 cap2) := ⟨_, rfl⟩
  have hne : w1.heap.size ≠ b := by omega
  have x0 : X.cell? ⟨b, q, none⟩ = some (.slice (some ⟨w1.heap.size, 0, none⟩) 0 cap2) := by rw [hX]; exact World.cell?_setCell_same' _ _ _ (by rw [r0]; rfl)
  have x1 : X.cell? ⟨b, q + 1, none⟩ = some (.int .i64 0) := by rw [hX]; exact t1
  have hKX : KeptB b q w X := by rw [hX]; exact (HK1.out.trans (.of HBEL.out hz1)).set _
  have y0 : (X.setCell ⟨b, q + 1, none⟩ (.int .i64 0)).cell? ⟨b, q, none⟩ = some (.slice (some ⟨w1.heap.size, 0, none⟩) 0 cap2) := (World.cell?_setCell_other _ _ _ _ (by intro e; injection e with _ e2; omega)).trans x0
  rw [← hX]
  refine ⟨w1.heap.size, cap2, cells, rfl, ?_, ?_, hb, by show 0 + n ≤ cap2; omega, he', by simp [Lib.byteCells], hne, HSZ.out, (hKX.again (by omega) x1).set _⟩
  · show _ = some (Value.slice (some ⟨w1.heap.size, 0, none⟩) (0 + n) cap2)
    rw [Nat.zero_add]
    exact World.cell?_setCell_same' _ _ _ (by rw [y0]; rfl)
  · rw [Below.heap_setCell _ _ _ _ (by exact hne), Below.heap_setCell _ _ _ _ (by exact hne), hX, Below.heap_setCell _ _ _ _ (by exact hne)]
    exact ha

/-- What a write of many bytes into an empty buffer leaves: a fresh row with these. -/
def WManyPost (b q : Nat) (zs : List Value) (w : World) (e : Ending) (w' : World) : Prop :=
  ∃ g cap cur, e = .returned (.tuple #[.int .i64 (zs.length : Nat), .nilIface]) ∧ w'.cell? ⟨b, q, none⟩ = some (.slice (some ⟨g, 0, none⟩) zs.length cap) ∧ w'.heap[g]? = some (.cells cur 5 (0, 0)) ∧ cur.size = cap ∧ zs.length ≤ cap ∧ cap ≤ maxLen ∧ cur.toList.take zs.length = zs ∧ g ≠ b ∧ w.heap.size ≤ g ∧ KeptB b q (w.setCell ⟨b, q + 2, none⟩ (.int .i8 0)) w'

set_option maxRecDepth 100000 in
set_option maxHeartbeats 1000000 in
theorem write_many (b q n c : Nat) (zs : List Value) (a : Addr) (lr : Int) (w : World) (hzn : zs.length = n) (c0 : w.cell? ⟨b, q, none⟩ = some (.slice none 0 0)) (c1 : w.cell? ⟨b, q + 1, none⟩ = some (.int .i64 0)) (c2 : w.cell? ⟨b, q + 2, none⟩ = some (.int .i8 lr)) (f : ∀ j, w.frozen? ⟨b, j, none⟩ = false)
    (hn1 : 1 ≤ n) (hn2 : n ≤ 1000000) (hab : a.block ≠ b) (haz : a.block < w.heap.size) (ha : ∀ j v, zs[j]? = some v → w.cell? (a.add j) = some v) (hone : ∀ v ∈ zs, v.oneCell' = true) :
    Calls Tryd.prog 69 #[.pointer (some ⟨b, q, none⟩), .slice (some a) n c] w (WManyPost b q zs w) := by
  have hz := lt_of_cell c0
  have fq2 := f (q + 2)
  have k0 : (w.setCell ⟨b, q + 2, none⟩ (.int .i8 0)).cell? ⟨b, q, none⟩ = some (.slice none 0 0) := (World.cell?_setCell_other _ _ _ _ (by intro e; injection e with _ e2; omega)).trans c0
  have k1 : (w.setCell ⟨b, q + 2, none⟩ (.int .i8 0)).cell? ⟨b, q + 1, none⟩ = some (.int .i64 0) := (World.cell?_setCell_other _ _ _ _ (by intro e; injection e with _ e2; omega)).trans c1
  have kf : ∀ j, (w.setCell ⟨b, q + 2, none⟩ (.int .i8 0)).frozen? ⟨b, j, none⟩ = false := fun j => (World.frozen?_setCell _ _ _ _).trans (f j)
  have hWs : (w.setCell ⟨b, q + 2, none⟩ (.int .i8 0)).heap.size = w.heap.size := by simp [World.setCell]
  have ja : ∀ j v, zs[j]? = some v → (w.setCell ⟨b, q + 2, none⟩ (.int .i8 0)).cell? (a.add j) = some v := fun j v hv => by
    have hbk : (a.add j).block = a.block := by unfold Addr.add; split <;> rfl
    exact (World.cell?_of_block (w := w) (Below.heap_setCell _ _ _ _ (by rw [hbk]; exact hab))).trans (ha j v hv)
  have htr := Go.Lib.hid (try_none b q none 0 0 n (w.setCell ⟨b, q + 2, none⟩ (.int .i8 0)) k0 (Nat.le_refl _) (by omega) (by unfold maxLen; omega))
  have HGR : Hid (Calls Tryd.prog 61 #[.pointer (some ⟨b, q, none⟩), .int .i64 (n : Nat)] (w.setCell ⟨b, q + 2, none⟩ (.int .i8 0)) (GrowPost b q n [] (w.setCell ⟨b, q + 2, none⟩ (.int .i8 0)))) := by
    refine Go.Lib.hid ?_
    by_cases h : n ≤ 64
    · exact grow_small b q n _ k0 k1 kf hn1 h
    · exact grow_big b q n _ k0 k1 kf (by omega) hn2
  have HWS := Go.Lib.hid hWs
  have JA := Go.Lib.hid ja
  have HZN := Go.Lib.hid hzn
  have HAZ := Go.Lib.hid haz
  have HONE := Go.Lib.hid hone
  clear f k0 k1 kf hWs ja ha hzn haz hone
  go_enter Tryd.func69, Tryd.ntmps69
  go_wp2_with fail
  refine htr.out.mono ?_
  rintro e w2 ⟨rfl, hw2⟩
  subst hw2
  go_wp2_with fail
  refine HGR.out.mono ?_
  rintro e w3 ⟨g, cap3, cur, rfl, h0, hg, hcs, hroom, hcm3, htk, hgb, hge, hk⟩
  have hroom2 : n ≤ cap3 := by simpa using hroom
  have h0' : w3.cell? ⟨b, q, none⟩ = some (.slice (some ⟨g, 0, none⟩) n cap3) := by simpa using h0
  have hz3 : b < w3.heap.size := lt_of_cell h0
  have ja3 : ∀ j v, zs[j]? = some v → w3.cell? (a.add j) = some v := fun j v hv => by
    have hbk : (a.add j).block = a.block := by unfold Addr.add; split <;> rfl
    exact (World.cell?_of_block (w := w.setCell ⟨b, q + 2, none⟩ (.int .i8 0)) (hk.rest _ (by rw [hbk, HWS.out]; exact HAZ.out) (by rw [hbk]; exact hab))).trans (JA.out j v hv)
  have hinfo : (Tryd.prog.info? 5).map (·.size) = some 1 := by kernel_rfl
  have hcp := run_copy_row (P := Tryd.prog) w3 51 51 3 5 g 0 n cap3 a n c cur 5 zs Tryd.underlying51 hinfo hg (by rw [HZN.out]; exact (Nat.min_self n).symm) ja3 (by have := HZN.out; omega) HONE.out
  have hfr := from_runB g 0 n cap3 (by omega) (by omega)
  rw [Nat.sub_zero, Nat.sub_zero] at hfr
  have hzn := HZN.out
  rw [hzn] at hcp
  clear hzn
  have HX := Go.Lib.hid (And.intro hg (And.intro hcs (And.intro hcm3 (And.intro hge hk))))
  clear hg hcs htk hge hk ja3 hinfo hcm3 h0 hroom
  go_wp2_with fail
  go_returns
  obtain ⟨hg, hcs, hcm3, hge, hk⟩ := HX.out
  have hcl : cur.toList.length = cap3 := by rw [Array.length_toList]; exact hcs
  have hoth : ∀ (X : Array Value) (k : Nat), k ≠ g → (w3.setRow g X).heap[k]? = w3.heap[k]? := fun X k h => setRow_other w3 g k X h
  refine ⟨g, cap3, _, by rw [HZN.out]; rfl, ?_, setRow_heap w3 g cur _ _ _ hg, ?_, by rw [HZN.out]; exact hroom2, hcm3, ?_, hgb, by rw [← HWS.out]; exact hge, ⟨hk.os, hk.tape, hk.output, by rw [setRow_size]; exact hk.size, fun k h1 h2 => (hoth _ k (by omega)).trans (hk.rest k h1 h2), fun o ho => (World.cell?_of_block (w := w3) (hoth _ b (fun e => hgb e.symm))).trans (hk.cells o ho), fun j => (World.frozen?_of_block (w := w3) (hoth _ b (fun e => hgb e.symm))).trans (hk.fz j)⟩⟩
  · rw [HZN.out]
    exact (World.cell?_of_block (w := w3) (hoth _ b (fun e => hgb e.symm))).trans h0'
  · have := HZN.out
    simp [hcl]
    omega
  · have := HZN.out
    simp
end Go.Proofs.YtbibokkclejapaaDoor
