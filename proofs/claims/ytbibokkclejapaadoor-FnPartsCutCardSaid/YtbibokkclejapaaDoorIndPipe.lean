/- impl.IndentPiped, impl.PadPiped, impl.InsetPadded: texts in parts. (Printed by gen/mkpipe.py.) -/
import Derived.Test.YtbibokkclejapaaDoorIndPadAll
import Derived.Test.YtbibokkclejapaaDoorIndQIWrite
import Derived.Test.YtbibokkclejapaaDoorIndByAll
import Derived.Test.YtbibokkclejapaaDoorIndSumLaw
namespace Go.Proofs.YtbibokkclejapaaDoor
open Go.RowKit
set_option linter.unusedVariables false
set_option linter.unusedSimpArgs false
variable {X : Nat → Prop}

/-- A text's parts in a block of their own. -/
def PA (w : World) (x : Nat) (ls : List (List UInt8)) : Prop := x < w.heap.size ∧ ∀ j (h : j < ls.length), w.cell? ⟨x, j, none⟩ = some (.string (tx ls[j]))
theorem PA.below {w w' : World} {x : Nat} {ls : List (List UInt8)} (h : PA w x ls) (hb : Below w.heap.size w w') : PA w' x ls :=
  ⟨Nat.lt_of_lt_of_le h.1 hb.size, fun j hj => (hb.cell (p := ⟨x, j, none⟩) h.1).trans (h.2 j hj)⟩
theorem endS_append (x y : List UInt8) (sk : Bool) : endS sk (x ++ y) = endS (endS sk x) y := by simp [endS, List.foldl_append]
theorem flat_take (ls : List (List UInt8)) (k : Nat) (h : k < ls.length) : (ls.take (k + 1)).flatten = (ls.take k).flatten ++ ls[k] := by
  rw [List.take_add_one, List.getElem?_eq_getElem h, Option.toList_some, List.flatten_append, List.flatten_singleton]
theorem flat_pre (ls : List (List UInt8)) (k : Nat) : ∃ y, ls.flatten = (ls.take k).flatten ++ y := ⟨(ls.drop k).flatten, by rw [← List.flatten_append, List.take_append_drop]⟩

/-- A writer of sequences with nothing seen. -/
def awCellsF (v : Value) : Array Value := #[v, .bool false, .slice none 0 0, .int .i64 0, .int .i8 0, .slice none 0 0, .int .i64 0, .int .i8 0, .bool false, .slice none 0 0]
set_option maxHeartbeats 800000 in
theorem ipipe_any (t : TypeId) (x n : Nat) (w : World) : Calls Tryd.prog 39 #[.iface t (.pointer (some ⟨x, 0, none⟩)), .int .u64 (n : Nat), .nilFunc] w fun e w' => e = .returned (.pointer (some ⟨w.heap.size + 1, 0, none⟩)) ∧ w' = (w.alloc (.cells (awCellsF (.iface t (.pointer (some ⟨x, 0, none⟩)))) 75)).alloc (.cells (iwCells (n : Nat) .nilFunc w.heap.size) 71) := by
  go_enter Tryd.func39, Tryd.ntmps39
  go_wp2_with fail
  go_returns
  exact ⟨rfl, rfl⟩
set_option maxHeartbeats 800000 in
theorem ppipe_any (t : TypeId) (x n : Nat) (w : World) : Calls Tryd.prog 41 #[.iface t (.pointer (some ⟨x, 0, none⟩)), .int .u64 (n : Nat), .nilFunc] w fun e w' => e = .returned (.pointer (some ⟨w.heap.size + 1, 0, none⟩)) ∧ w' = (w.alloc (.cells (awCellsF (.iface t (.pointer (some ⟨x, 0, none⟩)))) 75)).alloc (.cells (pwCells (n : Nat) w.heap.size) 78) := by
  go_enter Tryd.func41, Tryd.ntmps41
  go_wp2_with fail
  go_returns
  exact ⟨rfl, rfl⟩
def bufCells : Array Value := #[.slice none 0 0, .int .i64 0, .int .i8 0]
/-- The three blocks: a buffer, a writer of sequences over it, and another block. -/
theorem three_blocks (w : World) (cs : Array Value) (t : TypeId) : ∃ W, W = ((w.alloc (.cells bufCells 56)).alloc (.cells (awCellsF (.iface 58 (.pointer (some ⟨w.heap.size, 0, none⟩)))) 75)).alloc (.cells cs t) ∧ Below w.heap.size w W ∧ W.heap[w.heap.size + 2]? = some (.cells cs t (0, 0)) ∧ SW (fun _ => False) w.heap.size (w.heap.size + 1) w.heap.size 0 W [] ∧ W.heap.size = w.heap.size + 3 := by
  obtain ⟨W1, hW1⟩ : ∃ W, W = w.alloc (.cells bufCells 56) := ⟨_, rfl⟩
  obtain ⟨W2, hW2⟩ : ∃ W, W = W1.alloc (.cells (awCellsF (.iface 58 (.pointer (some ⟨w.heap.size, 0, none⟩)))) 75) := ⟨_, rfl⟩
  obtain ⟨W, hW⟩ : ∃ W, W = W2.alloc (.cells cs t) := ⟨_, rfl⟩
  have s1 : W1.heap.size = w.heap.size + 1 := by rw [hW1]; simp
  have s2 : W2.heap.size = w.heap.size + 2 := by rw [hW2]; simp [s1]
  have s3 : W.heap.size = w.heap.size + 3 := by rw [hW]; simp [s2]
  have h1 : W1.heap[w.heap.size]? = some (.cells bufCells 56 (0, 0)) := by rw [hW1]; exact heap_alloc_new w _
  have h2 : W2.heap[w.heap.size + 1]? = some (.cells (awCellsF (.iface 58 (.pointer (some ⟨w.heap.size, 0, none⟩)))) 75 (0, 0)) := by
    have := heap_alloc_new W1 (.cells (awCellsF (.iface 58 (.pointer (some ⟨w.heap.size, 0, none⟩)))) 75 (0, 0))
    rw [← hW2, s1] at this
    exact this
  have h3 : W.heap[w.heap.size + 2]? = some (.cells cs t (0, 0)) := by
    have := heap_alloc_new W2 (.cells cs t (0, 0))
    rw [← hW, s2] at this
    exact this
  have e1 : W.heap[w.heap.size]? = some (.cells bufCells 56 (0, 0)) := by
    rw [hW, Below.heap_alloc _ _ _ (by omega), hW2, Below.heap_alloc _ _ _ (by omega)]; exact h1
  have e2 : W.heap[w.heap.size + 1]? = some (.cells (awCellsF (.iface 58 (.pointer (some ⟨w.heap.size, 0, none⟩)))) 75 (0, 0)) := by
    rw [hW, Below.heap_alloc _ _ _ (by omega)]; exact h2
  have cb : ∀ o, W.cell? ⟨w.heap.size, o, none⟩ = bufCells[o]? := fun o => by rw [World.cell?, e1]; rfl
  have ca : ∀ o, W.cell? ⟨w.heap.size + 1, o, none⟩ = (awCellsF (.iface 58 (.pointer (some ⟨w.heap.size, 0, none⟩))))[o]? := fun o => by rw [World.cell?, e2]; rfl
  have fb : ∀ o, W.frozen? ⟨w.heap.size, o, none⟩ = false := fun o => by rw [World.frozen?, e1]; simp
  have fa : ∀ o, W.frozen? ⟨w.heap.size + 1, o, none⟩ = false := fun o => by rw [World.frozen?, e2]; simp
  have hb : Below w.heap.size w W := by
    rw [hW, hW2, hW1]
    exact (((Below.refl _ _).alloc (Nat.le_refl _) _).alloc (by simp) _).alloc (by simp; omega) _
  refine ⟨W, by rw [hW, hW2, hW1], hb, h3, ⟨none, none, ⟨0, cb 0, cb 1, ⟨0, cb 2⟩, fb, .inl ⟨rfl, rfl, rfl⟩⟩, Nat.le_refl _, by omega, by omega, fun g hg => (by cases hg), fun r hr => (by cases hr), ca 0, ca 1, ca 5, ca 6, ⟨0, ca 7⟩, ca 8, ca 9, fa, fun k hk => hk.elim⟩, s3⟩

set_option maxRecDepth 100000 in
set_option maxHeartbeats 1000000 in
theorem indentPiped_any (n x cap : Nat) (ls : List (List UInt8)) (w : World) (hx : PA w x ls) (hn : n ≤ 1000) (hp : ∀ y ∈ ls, Pla y ∧ y.length ≤ 900000) (hll : ls.length ≤ 1000) (hl : (indP (List.replicate n 32) false ls.flatten).length + n ≤ 900000) :
    Calls Tryd.prog 21 #[.slice (some ⟨x, 0, none⟩) ls.length cap, .int .u64 (n : Nat)] w fun e w' => e = .returned (.string (tx (indP (List.replicate n 32) false ls.flatten))) ∧ Below w.heap.size w w' := by
  obtain ⟨W, hW, hbW, h3, hsw, hs3⟩ := three_blocks w (iwCells (n : Nat) .nilFunc (w.heap.size + 1)) 71
  have HN : Hid (Calls Tryd.prog 39 #[.iface 58 (.pointer (some ⟨w.heap.size, 0, none⟩)), .int .u64 (n : Nat), .nilFunc] (w.alloc (.cells bufCells 56)) fun e w' => e = .returned (.pointer (some ⟨w.heap.size + 2, 0, none⟩)) ∧ w' = W) := by
    have h := ipipe_any 58 w.heap.size n (w.alloc (.cells bufCells 56))
    have e1 : (w.alloc (.cells bufCells 56)).heap.size = w.heap.size + 1 := by simp
    rw [e1] at h
    rw [hW]
    exact Go.Lib.hid h
  have ci : ∀ o, W.cell? ⟨w.heap.size + 2, o, none⟩ = (iwCells (n : Nat) .nilFunc (w.heap.size + 1))[o]? := fun o => by rw [World.cell?, h3]; rfl
  have fi : ∀ o, W.frozen? ⟨w.heap.size + 2, o, none⟩ = false := fun o => by rw [World.frozen?, h3]; simp
  have hiw : IW (fun _ => False) w.heap.size (w.heap.size + 2) (w.heap.size + 1) w.heap.size 0 n .nilFunc W [] false :=
    ⟨hsw, by omega, by omega, .inr ⟨by omega, _, _, _, h3, by decide⟩, ci 0, ci 1, ci 2, ci 6, ci 7, fi, fun k hk => hk.elim⟩
  have HI := Go.Lib.hid hiw
  have HBW := Go.Lib.hid hbW
  obtain ⟨p, hpp⟩ : ∃ p, p = List.replicate n (32 : UInt8) := ⟨_, rfl⟩
  obtain ⟨m, hm⟩ : ∃ m, m = ls.length := ⟨_, rfl⟩
  have HSTEP : Hid (∀ k (hk : k < ls.length) (wr : World), IW (fun _ => False) w.heap.size (w.heap.size + 2) (w.heap.size + 1) w.heap.size 0 n .nilFunc wr (indP p false (ls.take k).flatten) (endS false (ls.take k).flatten) → ∀ a c, TextAt wr a ls[k].length c (tx ls[k]) → Calls Tryd.prog 34 #[.pointer (some ⟨w.heap.size + 2, 0, none⟩), .slice a ls[k].length c] wr fun e w' => e = .returned (.tuple #[.int .i64 (ls[k].length : Nat), .nilIface]) ∧ IW (fun _ => False) w.heap.size (w.heap.size + 2) (w.heap.size + 1) w.heap.size 0 n .nilFunc w' (indP p false (ls.take (k + 1)).flatten) (endS false (ls.take (k + 1)).flatten) ∧ Below w.heap.size wr w') := fun k hk wr hI a c ht => by
    obtain ⟨hp1, hp2⟩ := hp _ (List.getElem_mem hk)
    obtain ⟨y, hy⟩ := flat_pre ls (k + 1)
    have e1 := indP_append p y (ls.take (k + 1)).flatten false
    rw [← hy, flat_take ls k hk, indP_append p ls[k]] at e1
    rw [← hpp, e1, List.length_append, List.length_append] at hl
    refine (iw_write _ _ _ _ _ n _ ls[k] _ a c wr hI hn ht (fun c hc => hp1.safe c hc) (by rw [← hpp]; omega) hp2).mono ?_
    rintro e w' ⟨rfl, i2, o2⟩
    rw [← hpp, ← indP_append, ← endS_append, ← flat_take ls k hk] at i2
    exact ⟨rfl, i2, o2.below⟩
  have HX := Go.Lib.hid hx
  have HM := Go.Lib.hid hm
  have HS3 := Go.Lib.hid hs3
  have hm2 : m ≤ 1000 := by omega
  rw [← hm, ← hpp]
  clear hW hbW h3 hsw hs3 ci fi hiw hpp hm hp hl hx hll
  go_enter Tryd.func21, Tryd.ntmps21
  go_wp2_with fail
  refine HN.out.mono ?_
  rintro e w1 ⟨rfl, rfl⟩
  go_wp2_with fail
  go_loopw [14] (fun i wr => ∃ k : Nat, k ≤ m ∧ i = .int .i64 (k : Nat) ∧ Hid (IW (fun _ => False) w.heap.size (w.heap.size + 2) (w.heap.size + 1) w.heap.size 0 n .nilFunc wr (indP p false (ls.take k).flatten) (endS false (ls.take k).flatten)) ∧ Hid (Below w.heap.size w wr)) (fun i _ => m - (intOf i).toNat)
  case atStart => exact ⟨0, Nat.zero_le _, rfl, Go.Lib.hid (by simpa [indP, endS] using HI.out), HBW⟩
  case round =>
    obtain ⟨k, hk, rfl, HW, HB⟩ := hrel
    by_cases hkm : k < m
    · have hkl : k < ls.length := by rw [← HM.out]; exact hkm
      have hck : wr.cell? ⟨x, k, none⟩ = some (.string (tx ls[k])) := (HX.out.below HB.out).2 k hkl
      have hxz := (HX.out.below HB.out).1
      obtain ⟨c, W5, hcv, hb5, ht5⟩ := made_tx ls[k] wr
      have HST := Go.Lib.hid (HSTEP.out k hkl W5 (HW.out.below hb5) _ c ht5)
      have HB5 : Hid (Below w.heap.size w W5) := HB.out.trans (hb5.mono HB.out.size)
      obtain ⟨s, hs⟩ : ∃ s, s = tx ls[k] := ⟨_, rfl⟩
      obtain ⟨d, hd⟩ : ∃ d, d = ls[k].length := ⟨_, rfl⟩
      rw [← hs] at hck hcv
      rw [← hd] at hcv HST
      clear hb5 ht5 hs hd hkl
      go_wp2_with fail
      refine HST.out.mono ?_
      rintro e w6 ⟨rfl, i6, b6⟩
      have I6 := Go.Lib.hid i6
      have B6 := Go.Lib.hid (HB5.out.trans b6)
      clear i6 b6
      go_wp2_with fail
      go_roundw
      case rel => exact ⟨k + 1, by omega, by go_num, I6, B6⟩
      case measure => simp [intOf]; omega
    · have hE : k = m := by omega
      have HE : Hid (IW (fun _ => False) w.heap.size (w.heap.size + 2) (w.heap.size + 1) w.heap.size 0 n .nilFunc wr (indP p false ls.flatten) (endS false ls.flatten)) := by
        have := HW.out
        rw [hE, HM.out, List.take_length] at this
        exact Go.Lib.hid this
      have HSTR : Hid (Calls Tryd.prog 40 #[.pointer (some ⟨w.heap.size, 0, none⟩)] wr fun e w' => e = .returned (.string (tx (indP p false ls.flatten))) ∧ w' = wr.drew) := by
        obtain ⟨A, R, hs⟩ := HE.out.sw
        obtain ⟨cap, hb⟩ := hs.buf
        exact Go.Lib.hid (buf_string w.heap.size 0 A cap _ wr hb)
      clear hE
      go_wp2_with fail
      refine HSTR.out.mono ?_
      rintro e w5 ⟨rfl, rfl⟩
      go_wp2_with fail
      go_returns
      exact ⟨rfl, HB.out.drew⟩

set_option maxRecDepth 100000 in
set_option maxHeartbeats 1000000 in
theorem flush_pipe (B pw ab b q n : Nat) (l : List UInt8) (ln : Nat) (w : World) (h : PW X B pw ab b q n w l ln) (hpb : pw ≠ b) (hn : n ≤ 1000) (hln : ln ≤ 900000) (hl : l.length + n ≤ 900000) :
    Calls Tryd.prog 59 #[.pointer (some ⟨pw, 0, none⟩)] w fun e w' => e = .returned .nilIface ∧ (∃ A cap, BA w' b q A cap (l ++ endP n ln)) ∧ Below B w w' := by
  have HH := Go.Lib.hid h
  have q9 := h.c9
  have hz := h.lt.1
  have HPAD := Go.Lib.hid (pad_any B pw ab b q n l ln w h hn hln (by omega))
  have HL2 : Hid ((l ++ endP n ln).length ≤ 900000) := by
    refine Go.Lib.hid ?_
    rw [List.length_append, endP]
    split <;> simp <;> omega
  by_cases h0 : ln = 0
  · have he : l ++ endP n ln = l := by rw [endP, if_pos h0, List.append_nil]
    rw [he] at HL2 ⊢
    subst h0
    have I := HH
    have BB : Hid (Below B w w) := Go.Lib.hid (Below.refl _ _)
    clear h he hl
    go_enter Tryd.func59, Tryd.ntmps59
    have HRS := Go.Lib.hid (cache_reset pw w I.out.c6 I.out.c7 I.out.c8 I.out.f)
    go_wp2_with fail
    refine HRS.out.mono ?_
    rintro e w3 ⟨rfl, hc3, hk3⟩
    have HK3 := Go.Lib.hid hk3
    have HWT : Hid (∀ W2, Below w3.heap.size w3 W2 → Calls Tryd.prog 71 #[.pointer (some ⟨pw, 3, none⟩), .iface 58 (.pointer (some ⟨pw, 6, none⟩))] W2 (ToPost pw 3 6 [] W2)) := fun W2 hW => by
      rcases I.out.oth with ⟨e, _⟩ | ⟨_, _, hb⟩
      · exact absurd e hpb
      · exact write_to pw 3 6 none 0 [] W2 ((hb.ks hk3 (by omega) (by omega) (by omega)).below hW) (hc3.below hW) (by omega) (by simp)
    have b0 : Below w3.heap.size w3 w3.drew := (Below.refl _ _).drew
    have hz3 := lt_of_cell hc3.c0
    have HBW : Hid (Below B w w3) := BB.out.trans (hk3.below I.out.hB I.out.lt.1)
    have k9 := (hk3.cells 9 (by omega)).trans I.out.c9
    have k10 := (hk3.cells 10 (by omega)).trans I.out.c10
    have kf : ∀ j, w3.frozen? ⟨pw, j, none⟩ = false := fun j => (hk3.fz j).trans (I.out.f j)
    have HKF := Go.Lib.hid kf
    clear hc3 hk3 kf q9
    go_wp2_with fail
    refine region_held_tail 11 (S := (fun w' => True)) (by kernel_rfl) (by kernel_rfl) ?_ (fun hHeld => ?_)
    · (try dsimp only); first | done | (trivial)
    refine HeldT.take (i := 0) (v := ?_) (by simp only [List.getElem?_toArray, List.getElem?_cons_succ, List.getElem?_cons_zero]; rfl) (by kernel_rfl) (by kernel_rfl) (by kernel_rfl) (by kernel_rfl) (by exact fun _ _ _ h => h) ?_ (by assumption) ?_
    rotate_left
    · refine Or.inl ⟨by rfl, ?_⟩
      (intro w hSw; (try dsimp only at hSw); go_simp; try with_reducible rfl)
    try simp only [Act.put, List.setIfInBounds_toArray, List.set_cons_zero, List.set_cons_succ]
    refine HeldT.take (i := 1) (v := ?_) (by simp only [List.getElem?_toArray, List.getElem?_cons_succ, List.getElem?_cons_zero]; rfl) (by kernel_rfl) (by kernel_rfl) (by kernel_rfl) (by kernel_rfl) (by exact fun _ _ _ h => h) ?_ (by assumption) ?_
    rotate_left
    · refine Or.inl ⟨by rfl, ?_⟩
      (intro w hSw; (try dsimp only at hSw); go_simp; try with_reducible rfl)
    try simp only [Act.put, List.setIfInBounds_toArray, List.set_cons_zero, List.set_cons_succ]
    refine HeldT.take (i := 2) (v := ?_) (by simp only [List.getElem?_toArray, List.getElem?_cons_succ, List.getElem?_cons_zero]; rfl) (by kernel_rfl) (by kernel_rfl) (by kernel_rfl) (by kernel_rfl) (by exact fun _ _ _ h => h) ?_ (by assumption) ?_
    rotate_left
    · refine Or.inl ⟨by rfl, ?_⟩
      (intro w hSw; (try dsimp only at hSw); go_simp; try with_reducible rfl)
    try simp only [Act.put, List.setIfInBounds_toArray, List.set_cons_zero, List.set_cons_succ]
    refine HeldT.take (i := 3) (v := ?_) (by simp only [List.getElem?_toArray, List.getElem?_cons_succ, List.getElem?_cons_zero]; rfl) (by kernel_rfl) (by kernel_rfl) (by kernel_rfl) (by kernel_rfl) (by exact fun _ _ _ h => h) ?_ (by assumption) ?_
    rotate_left
    · refine Or.inl ⟨by rfl, ?_⟩
      (intro w hSw; (try dsimp only at hSw); go_simp; try with_reducible rfl)
    try simp only [Act.put, List.setIfInBounds_toArray, List.set_cons_zero, List.set_cons_succ]
    refine HeldT.take (i := 4) (v := ?_) (by simp only [List.getElem?_toArray, List.getElem?_cons_succ, List.getElem?_cons_zero]; rfl) (by kernel_rfl) (by kernel_rfl) (by kernel_rfl) (by kernel_rfl) (by exact fun _ _ _ h => h) ?_ (by assumption) ?_
    rotate_left
    · refine Or.inl ⟨by rfl, ?_⟩
      (intro w hSw; (try dsimp only at hSw); go_simp; try with_reducible rfl)
    try simp only [Act.put, List.setIfInBounds_toArray, List.set_cons_zero, List.set_cons_succ]
    refine HeldT.take (i := 5) (v := ?_) (by simp only [List.getElem?_toArray, List.getElem?_cons_succ, List.getElem?_cons_zero]; rfl) (by kernel_rfl) (by kernel_rfl) (by kernel_rfl) (by kernel_rfl) (by exact fun _ _ _ h => h) ?_ (by assumption) ?_
    rotate_left
    · refine Or.inl ⟨by rfl, ?_⟩
      (intro w hSw; (try dsimp only at hSw); go_simp; try with_reducible rfl)
    try simp only [Act.put, List.setIfInBounds_toArray, List.set_cons_zero, List.set_cons_succ]
    refine HeldT.take (i := 6) (v := ?_) (by simp only [List.getElem?_toArray, List.getElem?_cons_succ, List.getElem?_cons_zero]; rfl) (by kernel_rfl) (by kernel_rfl) (by kernel_rfl) (by kernel_rfl) (by exact fun _ _ _ h => h) ?_ (by assumption) ?_
    rotate_left
    · refine Or.inl ⟨by rfl, ?_⟩
      (intro w hSw; (try dsimp only at hSw); go_simp; try with_reducible rfl)
    try simp only [Act.put, List.setIfInBounds_toArray, List.set_cons_zero, List.set_cons_succ]
    refine HeldT.one (i := 7) (by simp only [List.getElem?_toArray, List.getElem?_cons_succ, List.getElem?_cons_zero]; rfl) (by kernel_rfl) (by kernel_rfl) (fun K hK => ?_)
    go_simp
    ((refine (HWT.out _ b0).mono ?_); rintro e w4 ⟨rfl, hb4, hk4⟩; have H4 := Go.Lib.hid hk4; have e9 := (hk4.cells 9 (by omega)).trans k9; have e10 := (hk4.cells 10 (by omega)).trans k10; have ef9 := (hk4.fz 9).trans (HKF.out 9); have ef10 := (hk4.fz 10).trans (HKF.out 10); have HB4 := Go.Lib.hid (HBW.out.trans ((Below.refl w3.heap.size w3).drew.mono (by exact Nat.le_trans I.out.hB (Nat.le_of_lt hz3)) |>.trans (hk4.below I.out.hB hz3))); clear hb4 hk4)
    try go_wp2_with fail
    refine hK.out _ _ ?_ (fun hHeld => ?_)
    · (try dsimp only); first | done | (trivial)
    clear hK K
    try simp only [Act.put, List.setIfInBounds_toArray, List.set_cons_zero, List.set_cons_succ]
    refine HeldT.take (i := 8) (v := ?_) (by simp only [List.getElem?_toArray, List.getElem?_cons_succ, List.getElem?_cons_zero]; rfl) (by kernel_rfl) (by kernel_rfl) (by kernel_rfl) (by kernel_rfl) (by exact fun _ _ _ h => h) ?_ (by assumption) ?_
    rotate_left
    · refine Or.inl ⟨by rfl, ?_⟩
      (intro w hSw; (try dsimp only at hSw); go_simp; try with_reducible rfl)
    try simp only [Act.put, List.setIfInBounds_toArray, List.set_cons_zero, List.set_cons_succ]
    refine HeldT.take (i := 9) (v := ?_) (by simp only [List.getElem?_toArray, List.getElem?_cons_succ, List.getElem?_cons_zero]; rfl) (by kernel_rfl) (by kernel_rfl) (by kernel_rfl) (by kernel_rfl) (by exact fun _ _ _ h => h) ?_ (by assumption) ?_
    rotate_left
    · refine Or.inl ⟨by rfl, ?_⟩
      (intro w hSw; (try dsimp only at hSw); go_simp; try with_reducible rfl)
    try simp only [Act.put, List.setIfInBounds_toArray, List.set_cons_zero, List.set_cons_succ]
    refine HeldT.take (i := 10) (v := ?_) (by simp only [List.getElem?_toArray, List.getElem?_cons_succ, List.getElem?_cons_zero]; rfl) (by kernel_rfl) (by kernel_rfl) (by kernel_rfl) (by kernel_rfl) (by exact fun _ _ _ h => h) ?_ (by assumption) ?_
    rotate_left
    · refine Or.inl ⟨by rfl, ?_⟩
      (intro w hSw; (try dsimp only at hSw); go_simp; try with_reducible rfl)
    try simp only [Act.put, List.setIfInBounds_toArray, List.set_cons_zero, List.set_cons_succ]
    refine HeldT.tail (by kernel_rfl) rfl ?_
    go_wp2_with fail
    go_returns
    obtain ⟨A4, R4, hs4⟩ := I.out.sw
    obtain ⟨cap4, hb4⟩ := hs4.buf
    have hpz := I.out.lt.1
    have hrow : ∀ g, A4 = some ⟨g, 0, none⟩ → g < w.heap.size ∧ g ≠ pw := fun g hg => by
      rcases hb4.row with ⟨e, _⟩ | ⟨g', cur, e, hgc, _⟩
      · rw [hg] at e; cases e
      · rw [hg] at e
        cases e
        refine ⟨(Array.getElem?_eq_some_iff.1 hgc).1, fun e2 => ?_⟩
        rcases I.out.oth with ⟨e3, _⟩ | ⟨_, ⟨c, t, fz, h5, h6⟩, _⟩
        · exact hpb e3
        · rw [← e2, hgc] at h5
          cases h5
          exact h6 rfl
    have hbz := lt_of_cell hb4.c0
    have hkeep : ∀ k, k < w.heap.size → k ≠ pw → ((w4.setCell ⟨pw, 9, none⟩ (.int .i64 0)).setCell ⟨pw, 10, none⟩ (.bool false)).heap[k]? = w.heap[k]? := fun k hk hkp => by
      rw [Below.heap_setCell _ _ _ _ (by exact hkp), Below.heap_setCell _ _ _ _ (by exact hkp)]
      exact (H4.out.rest k (Nat.lt_of_lt_of_le hk HK3.out.size) hkp).trans (HK3.out.rest k hk hkp)
    exact ⟨rfl, ⟨A4, cap4, hb4.same (hkeep b hbz (Ne.symm hpb)) fun g hg => hkeep g (hrow g hg).1 (hrow g hg).2⟩, (HB4.out.setCell I.out.hB _).setCell I.out.hB _⟩
  · have he : l ++ endP n ln = l ++ List.replicate (n - ln) 32 := by rw [endP, if_neg h0]
    rw [he] at HL2 ⊢
    have q0 : ((ln : Int) == 0) = false := by simp; omega
    obtain ⟨l2, hl2⟩ : ∃ l2, l2 = l ++ List.replicate (n - ln) 32 := ⟨_, rfl⟩
    have hpd : PadPost X B pw ab b q n l ln w = fun e w' => e = .returned .nilIface ∧ PW X B pw ab b q n w' l2 ln ∧ IOn X B pw ab b w w' := by rw [hl2]; rfl
    rw [hpd] at HPAD
    rw [← hl2] at HL2 ⊢
    clear h he h0 hl2 hpd hl
    go_enter Tryd.func59, Tryd.ntmps59
    go_wp2_with fail
    refine HPAD.out.mono ?_
    rintro e w2 ⟨rfl, i2, o2⟩
    have I := Go.Lib.hid i2
    have BB : Hid (Below B w w2) := Go.Lib.hid o2.below
    have kz := i2.lt.1
    clear i2 o2
    have HRS := Go.Lib.hid (cache_reset pw w2 I.out.c6 I.out.c7 I.out.c8 I.out.f)
    go_wp2_with fail
    refine HRS.out.mono ?_
    rintro e w3 ⟨rfl, hc3, hk3⟩
    have HK3 := Go.Lib.hid hk3
    have HWT : Hid (∀ W2, Below w3.heap.size w3 W2 → Calls Tryd.prog 71 #[.pointer (some ⟨pw, 3, none⟩), .iface 58 (.pointer (some ⟨pw, 6, none⟩))] W2 (ToPost pw 3 6 [] W2)) := fun W2 hW => by
      rcases I.out.oth with ⟨e, _⟩ | ⟨_, _, hb⟩
      · exact absurd e hpb
      · exact write_to pw 3 6 none 0 [] W2 ((hb.ks hk3 (by omega) (by omega) (by omega)).below hW) (hc3.below hW) (by omega) (by simp)
    have b0 : Below w3.heap.size w3 w3.drew := (Below.refl _ _).drew
    have hz3 := lt_of_cell hc3.c0
    have HBW : Hid (Below B w w3) := BB.out.trans (hk3.below I.out.hB I.out.lt.1)
    have k9 := (hk3.cells 9 (by omega)).trans I.out.c9
    have k10 := (hk3.cells 10 (by omega)).trans I.out.c10
    have kf : ∀ j, w3.frozen? ⟨pw, j, none⟩ = false := fun j => (hk3.fz j).trans (I.out.f j)
    have HKF := Go.Lib.hid kf
    clear hc3 hk3 kf q9
    go_wp2_with fail
    refine region_held_tail 11 (S := (fun w' => True)) (by kernel_rfl) (by kernel_rfl) ?_ (fun hHeld => ?_)
    · (try dsimp only); first | done | (trivial)
    refine HeldT.take (i := 0) (v := ?_) (by simp only [List.getElem?_toArray, List.getElem?_cons_succ, List.getElem?_cons_zero]; rfl) (by kernel_rfl) (by kernel_rfl) (by kernel_rfl) (by kernel_rfl) (by exact fun _ _ _ h => h) ?_ (by assumption) ?_
    rotate_left
    · refine Or.inl ⟨by rfl, ?_⟩
      (intro w hSw; (try dsimp only at hSw); go_simp; try with_reducible rfl)
    try simp only [Act.put, List.setIfInBounds_toArray, List.set_cons_zero, List.set_cons_succ]
    refine HeldT.take (i := 1) (v := ?_) (by simp only [List.getElem?_toArray, List.getElem?_cons_succ, List.getElem?_cons_zero]; rfl) (by kernel_rfl) (by kernel_rfl) (by kernel_rfl) (by kernel_rfl) (by exact fun _ _ _ h => h) ?_ (by assumption) ?_
    rotate_left
    · refine Or.inl ⟨by rfl, ?_⟩
      (intro w hSw; (try dsimp only at hSw); go_simp; try with_reducible rfl)
    try simp only [Act.put, List.setIfInBounds_toArray, List.set_cons_zero, List.set_cons_succ]
    refine HeldT.take (i := 2) (v := ?_) (by simp only [List.getElem?_toArray, List.getElem?_cons_succ, List.getElem?_cons_zero]; rfl) (by kernel_rfl) (by kernel_rfl) (by kernel_rfl) (by kernel_rfl) (by exact fun _ _ _ h => h) ?_ (by assumption) ?_
    rotate_left
    · refine Or.inl ⟨by rfl, ?_⟩
      (intro w hSw; (try dsimp only at hSw); go_simp; try with_reducible rfl)
    try simp only [Act.put, List.setIfInBounds_toArray, List.set_cons_zero, List.set_cons_succ]
    refine HeldT.take (i := 3) (v := ?_) (by simp only [List.getElem?_toArray, List.getElem?_cons_succ, List.getElem?_cons_zero]; rfl) (by kernel_rfl) (by kernel_rfl) (by kernel_rfl) (by kernel_rfl) (by exact fun _ _ _ h => h) ?_ (by assumption) ?_
    rotate_left
    · refine Or.inl ⟨by rfl, ?_⟩
      (intro w hSw; (try dsimp only at hSw); go_simp; try with_reducible rfl)
    try simp only [Act.put, List.setIfInBounds_toArray, List.set_cons_zero, List.set_cons_succ]
    refine HeldT.take (i := 4) (v := ?_) (by simp only [List.getElem?_toArray, List.getElem?_cons_succ, List.getElem?_cons_zero]; rfl) (by kernel_rfl) (by kernel_rfl) (by kernel_rfl) (by kernel_rfl) (by exact fun _ _ _ h => h) ?_ (by assumption) ?_
    rotate_left
    · refine Or.inl ⟨by rfl, ?_⟩
      (intro w hSw; (try dsimp only at hSw); go_simp; try with_reducible rfl)
    try simp only [Act.put, List.setIfInBounds_toArray, List.set_cons_zero, List.set_cons_succ]
    refine HeldT.take (i := 5) (v := ?_) (by simp only [List.getElem?_toArray, List.getElem?_cons_succ, List.getElem?_cons_zero]; rfl) (by kernel_rfl) (by kernel_rfl) (by kernel_rfl) (by kernel_rfl) (by exact fun _ _ _ h => h) ?_ (by assumption) ?_
    rotate_left
    · refine Or.inl ⟨by rfl, ?_⟩
      (intro w hSw; (try dsimp only at hSw); go_simp; try with_reducible rfl)
    try simp only [Act.put, List.setIfInBounds_toArray, List.set_cons_zero, List.set_cons_succ]
    refine HeldT.take (i := 6) (v := ?_) (by simp only [List.getElem?_toArray, List.getElem?_cons_succ, List.getElem?_cons_zero]; rfl) (by kernel_rfl) (by kernel_rfl) (by kernel_rfl) (by kernel_rfl) (by exact fun _ _ _ h => h) ?_ (by assumption) ?_
    rotate_left
    · refine Or.inl ⟨by rfl, ?_⟩
      (intro w hSw; (try dsimp only at hSw); go_simp; try with_reducible rfl)
    try simp only [Act.put, List.setIfInBounds_toArray, List.set_cons_zero, List.set_cons_succ]
    refine HeldT.one (i := 7) (by simp only [List.getElem?_toArray, List.getElem?_cons_succ, List.getElem?_cons_zero]; rfl) (by kernel_rfl) (by kernel_rfl) (fun K hK => ?_)
    go_simp
    ((refine (HWT.out _ b0).mono ?_); rintro e w4 ⟨rfl, hb4, hk4⟩; have H4 := Go.Lib.hid hk4; have e9 := (hk4.cells 9 (by omega)).trans k9; have e10 := (hk4.cells 10 (by omega)).trans k10; have ef9 := (hk4.fz 9).trans (HKF.out 9); have ef10 := (hk4.fz 10).trans (HKF.out 10); have HB4 := Go.Lib.hid (HBW.out.trans ((Below.refl w3.heap.size w3).drew.mono (by exact Nat.le_trans I.out.hB (Nat.le_of_lt hz3)) |>.trans (hk4.below I.out.hB hz3))); clear hb4 hk4)
    try go_wp2_with fail
    refine hK.out _ _ ?_ (fun hHeld => ?_)
    · (try dsimp only); first | done | (trivial)
    clear hK K
    try simp only [Act.put, List.setIfInBounds_toArray, List.set_cons_zero, List.set_cons_succ]
    refine HeldT.take (i := 8) (v := ?_) (by simp only [List.getElem?_toArray, List.getElem?_cons_succ, List.getElem?_cons_zero]; rfl) (by kernel_rfl) (by kernel_rfl) (by kernel_rfl) (by kernel_rfl) (by exact fun _ _ _ h => h) ?_ (by assumption) ?_
    rotate_left
    · refine Or.inl ⟨by rfl, ?_⟩
      (intro w hSw; (try dsimp only at hSw); go_simp; try with_reducible rfl)
    try simp only [Act.put, List.setIfInBounds_toArray, List.set_cons_zero, List.set_cons_succ]
    refine HeldT.take (i := 9) (v := ?_) (by simp only [List.getElem?_toArray, List.getElem?_cons_succ, List.getElem?_cons_zero]; rfl) (by kernel_rfl) (by kernel_rfl) (by kernel_rfl) (by kernel_rfl) (by exact fun _ _ _ h => h) ?_ (by assumption) ?_
    rotate_left
    · refine Or.inl ⟨by rfl, ?_⟩
      (intro w hSw; (try dsimp only at hSw); go_simp; try with_reducible rfl)
    try simp only [Act.put, List.setIfInBounds_toArray, List.set_cons_zero, List.set_cons_succ]
    refine HeldT.take (i := 10) (v := ?_) (by simp only [List.getElem?_toArray, List.getElem?_cons_succ, List.getElem?_cons_zero]; rfl) (by kernel_rfl) (by kernel_rfl) (by kernel_rfl) (by kernel_rfl) (by exact fun _ _ _ h => h) ?_ (by assumption) ?_
    rotate_left
    · refine Or.inl ⟨by rfl, ?_⟩
      (intro w hSw; (try dsimp only at hSw); go_simp; try with_reducible rfl)
    try simp only [Act.put, List.setIfInBounds_toArray, List.set_cons_zero, List.set_cons_succ]
    refine HeldT.tail (by kernel_rfl) rfl ?_
    go_wp2_with fail
    go_returns
    obtain ⟨A4, R4, hs4⟩ := I.out.sw
    obtain ⟨cap4, hb4⟩ := hs4.buf
    have hpz := I.out.lt.1
    have hrow : ∀ g, A4 = some ⟨g, 0, none⟩ → g < w2.heap.size ∧ g ≠ pw := fun g hg => by
      rcases hb4.row with ⟨e, _⟩ | ⟨g', cur, e, hgc, _⟩
      · rw [hg] at e; cases e
      · rw [hg] at e
        cases e
        refine ⟨(Array.getElem?_eq_some_iff.1 hgc).1, fun e2 => ?_⟩
        rcases I.out.oth with ⟨e3, _⟩ | ⟨_, ⟨c, t, fz, h5, h6⟩, _⟩
        · exact hpb e3
        · rw [← e2, hgc] at h5
          cases h5
          exact h6 rfl
    have hbz := lt_of_cell hb4.c0
    have hkeep : ∀ k, k < w2.heap.size → k ≠ pw → ((w4.setCell ⟨pw, 9, none⟩ (.int .i64 0)).setCell ⟨pw, 10, none⟩ (.bool false)).heap[k]? = w2.heap[k]? := fun k hk hkp => by
      rw [Below.heap_setCell _ _ _ _ (by exact hkp), Below.heap_setCell _ _ _ _ (by exact hkp)]
      exact (H4.out.rest k (Nat.lt_of_lt_of_le hk HK3.out.size) hkp).trans (HK3.out.rest k hk hkp)
    exact ⟨rfl, ⟨A4, cap4, hb4.same (hkeep b hbz (Ne.symm hpb)) fun g hg => hkeep g (hrow g hg).1 (hrow g hg).2⟩, (HB4.out.setCell I.out.hB _).setCell I.out.hB _⟩

/-- Close hands Flush's answer on. -/
theorem close_any (pw : Nat) (w : World) (Q : World → Prop) (h : Calls Tryd.prog 59 #[.pointer (some ⟨pw, 0, none⟩)] w fun e w' => e = .returned .nilIface ∧ Q w') : Calls Tryd.prog 43 #[.pointer (some ⟨pw, 0, none⟩)] w fun e w' => e = .returned .nilIface ∧ Q w' := by
  have H := Go.Lib.hid h
  clear h
  go_enter Tryd.func43, Tryd.ntmps43
  go_wp2_with fail
  refine H.out.mono ?_
  rintro e w1 ⟨rfl, q1⟩
  have Q1 := Go.Lib.hid q1
  clear q1
  go_wp2_with fail
  go_returns
  exact ⟨rfl, Q1.out⟩

set_option maxRecDepth 100000 in
set_option maxHeartbeats 1000000 in
theorem padPiped_any (n x cap : Nat) (ls : List (List UInt8)) (w : World) (hx : PA w x ls) (hn : n ≤ 1000) (hp : ∀ y ∈ ls, Pla y) (hll : ls.length ≤ 1000) (hl : (padP n 0 ls.flatten).length + n ≤ 900000) (hfl : ls.flatten.length ≤ 800000) :
    Calls Tryd.prog 22 #[.slice (some ⟨x, 0, none⟩) ls.length cap, .int .u64 (n : Nat)] w fun e w' => e = .returned (.string (tx (padL n ls.flatten))) ∧ Below w.heap.size w w' := by
  obtain ⟨W, hW, hbW, h3, hsw, hs3⟩ := three_blocks w (pwCells (n : Nat) (w.heap.size + 1)) 78
  have HN : Hid (Calls Tryd.prog 41 #[.iface 58 (.pointer (some ⟨w.heap.size, 0, none⟩)), .int .u64 (n : Nat), .nilFunc] (w.alloc (.cells bufCells 56)) fun e w' => e = .returned (.pointer (some ⟨w.heap.size + 2, 0, none⟩)) ∧ w' = W) := by
    have h := ppipe_any 58 w.heap.size n (w.alloc (.cells bufCells 56))
    have e1 : (w.alloc (.cells bufCells 56)).heap.size = w.heap.size + 1 := by simp
    rw [e1] at h
    rw [hW]
    exact Go.Lib.hid h
  have ci : ∀ o, W.cell? ⟨w.heap.size + 2, o, none⟩ = (pwCells (n : Nat) (w.heap.size + 1))[o]? := fun o => by rw [World.cell?, h3]; rfl
  have fi : ∀ o, W.frozen? ⟨w.heap.size + 2, o, none⟩ = false := fun o => by rw [World.frozen?, h3]; simp
  have hiw : PW (fun _ => False) w.heap.size (w.heap.size + 2) (w.heap.size + 1) w.heap.size 0 n W [] 0 :=
    ⟨hsw, by omega, by omega, .inr ⟨by omega, ⟨_, _, _, h3, by decide⟩, ci 3, ci 4, ⟨0, ci 5⟩, fi, .inl ⟨rfl, rfl, rfl⟩⟩, ci 0, ci 1, ci 2, ci 6, ci 7, ci 8, ci 9, ci 10, fi, fun k hk => hk.elim⟩
  have HI := Go.Lib.hid hiw
  have HBW := Go.Lib.hid hbW
  obtain ⟨m, hm⟩ : ∃ m, m = ls.length := ⟨_, rfl⟩
  have HSTEP : Hid (∀ k (hk : k < ls.length) (wr : World), PW (fun _ => False) w.heap.size (w.heap.size + 2) (w.heap.size + 1) w.heap.size 0 n wr (padP n 0 (ls.take k).flatten) (lnL 0 (ls.take k).flatten) → ∀ a c, TextAt wr a ls[k].length c (tx ls[k]) → Calls Tryd.prog 42 #[.pointer (some ⟨w.heap.size + 2, 0, none⟩), .slice a ls[k].length c] wr fun e w' => e = .returned (.tuple #[.int .i64 (ls[k].length : Nat), .nilIface]) ∧ PW (fun _ => False) w.heap.size (w.heap.size + 2) (w.heap.size + 1) w.heap.size 0 n w' (padP n 0 (ls.take (k + 1)).flatten) (lnL 0 (ls.take (k + 1)).flatten) ∧ Below w.heap.size wr w') := fun k hk wr hI a c ht => by
    have hp1 := hp _ (List.getElem_mem hk)
    obtain ⟨y, hy⟩ := flat_pre ls (k + 1)
    have e1 := padP_append n y (ls.take (k + 1)).flatten 0
    have e2 := lnL_le (ls.take k).flatten 0
    have e3 := congrArg List.length hy
    rw [← hy, flat_take ls k hk, padP_append n ls[k]] at e1
    rw [e1, List.length_append, List.length_append] at hl
    rw [flat_take ls k hk, List.length_append, List.length_append] at e3
    refine (pw_write _ _ _ _ _ n _ ls[k] _ a c wr hI hn ht hp1 (by omega) (by omega)).mono ?_
    rintro e w' ⟨rfl, i2, o2⟩
    rw [← padP_append, ← lnL_append, ← flat_take ls k hk] at i2
    exact ⟨rfl, i2, o2.below⟩
  have HFL : Hid (∀ wr, PW (fun _ => False) w.heap.size (w.heap.size + 2) (w.heap.size + 1) w.heap.size 0 n wr (padP n 0 ls.flatten) (lnL 0 ls.flatten) → Calls Tryd.prog 59 #[.pointer (some ⟨w.heap.size + 2, 0, none⟩)] wr fun e w' => e = .returned .nilIface ∧ (∃ A cap, BA w' w.heap.size 0 A cap (padL n ls.flatten)) ∧ Below w.heap.size wr w') := fun wr h => by
    have h1 := lnL_le ls.flatten 0
    exact flush_pipe _ _ _ _ _ n _ _ wr h (by omega) hn (by omega) (by omega)
  have HX := Go.Lib.hid hx
  have HM := Go.Lib.hid hm
  have HS3 := Go.Lib.hid hs3
  have hm2 : m ≤ 1000 := by omega
  rw [← hm]
  clear hW hbW h3 hsw hs3 ci fi hiw hm hp hl hx hll hfl
  go_enter Tryd.func22, Tryd.ntmps22
  go_wp2_with fail
  refine HN.out.mono ?_
  rintro e w1 ⟨rfl, rfl⟩
  go_wp2_with fail
  go_loopw [14] (fun i wr => ∃ k : Nat, k ≤ m ∧ i = .int .i64 (k : Nat) ∧ Hid (PW (fun _ => False) w.heap.size (w.heap.size + 2) (w.heap.size + 1) w.heap.size 0 n wr (padP n 0 (ls.take k).flatten) (lnL 0 (ls.take k).flatten)) ∧ Hid (Below w.heap.size w wr)) (fun i _ => m - (intOf i).toNat)
  case atStart => exact ⟨0, Nat.zero_le _, rfl, Go.Lib.hid (by simpa [padP, lnL] using HI.out), HBW⟩
  case round =>
    obtain ⟨k, hk, rfl, HW, HB⟩ := hrel
    by_cases hkm : k < m
    · have hkl : k < ls.length := by rw [← HM.out]; exact hkm
      have hck : wr.cell? ⟨x, k, none⟩ = some (.string (tx ls[k])) := (HX.out.below HB.out).2 k hkl
      have hxz := (HX.out.below HB.out).1
      obtain ⟨c, W5, hcv, hb5, ht5⟩ := made_tx ls[k] wr
      have HST := Go.Lib.hid (HSTEP.out k hkl W5 (HW.out.below hb5) _ c ht5)
      have HB5 : Hid (Below w.heap.size w W5) := HB.out.trans (hb5.mono HB.out.size)
      obtain ⟨s, hs⟩ : ∃ s, s = tx ls[k] := ⟨_, rfl⟩
      obtain ⟨d, hd⟩ : ∃ d, d = ls[k].length := ⟨_, rfl⟩
      rw [← hs] at hck hcv
      rw [← hd] at hcv HST
      clear hb5 ht5 hs hd hkl
      go_wp2_with fail
      refine HST.out.mono ?_
      rintro e w6 ⟨rfl, i6, b6⟩
      have I6 := Go.Lib.hid i6
      have B6 := Go.Lib.hid (HB5.out.trans b6)
      clear i6 b6
      go_wp2_with fail
      go_roundw
      case rel => exact ⟨k + 1, by omega, by go_num, I6, B6⟩
      case measure => simp [intOf]; omega
    · have hE : k = m := by omega
      have HE : Hid (Calls Tryd.prog 59 #[.pointer (some ⟨w.heap.size + 2, 0, none⟩)] wr fun e w' => e = .returned .nilIface ∧ (∃ A cap, BA w' w.heap.size 0 A cap (padL n ls.flatten)) ∧ Below w.heap.size wr w') := by
        have := HW.out
        rw [hE, HM.out, List.take_length] at this
        exact Go.Lib.hid (HFL.out wr this)
      have HCL := Go.Lib.hid (close_any _ wr _ HE.out)
      clear hE
      go_wp2_with fail
      refine HCL.out.mono ?_
      rintro e w4 ⟨rfl, ⟨A, cap4, hb4⟩, b4⟩
      have HSTR := Go.Lib.hid (buf_string w.heap.size 0 A cap4 _ w4 hb4)
      have HB4 := Go.Lib.hid (HB.out.trans b4)
      clear hb4 b4
      go_wp2_with fail
      refine HSTR.out.mono ?_
      rintro e w5 ⟨rfl, rfl⟩
      go_wp2_with fail
      go_returns
      exact ⟨rfl, HB4.out.drew⟩

theorem pw_string (b : Nat) (A : Option Addr) (cap : Nat) (l : List UInt8) (w : World) (hb : BA w b 6 A cap l) : Calls Tryd.prog 47 #[.pointer (some ⟨b, 0, none⟩)] w fun e w' => e = .returned (.string (tx l)) ∧ w' = w.drew := by
  have HB := Go.Lib.hid (buf_string b 6 A cap l w hb)
  have hz := lt_of_cell hb.c0
  clear hb
  go_enter Tryd.func47, Tryd.ntmps47
  go_wp2_with fail
  refine HB.out.mono ?_
  rintro e w1 ⟨rfl, rfl⟩
  go_wp2_with fail
  go_returns
  exact ⟨rfl, rfl⟩
theorem iq_start (n mm : Nat) (w : World) : ∃ W, W = ((((w.alloc (.cells (pwCells (mm : Nat) (w.heap.size + 1)) 78)).alloc (.cells (awCells w.heap.size) 75)).alloc (.cells (awCellsF (.iface 59 (.pointer (some ⟨w.heap.size, 0, none⟩)))) 75)).alloc (.cells (iwCells (n : Nat) .nilFunc (w.heap.size + 2)) 71)) ∧ Below w.heap.size w W ∧ IQ (fun _ => False) w.heap.size (w.heap.size + 3) (w.heap.size + 2) w.heap.size (w.heap.size + 1) mm n W [] false := by
  have hps := PW.start (X := fun _ => False) mm w (fun _ h => h.elim)
  have hpb := startP_below mm w
  obtain ⟨W2, hW2⟩ : ∃ W, W = (w.alloc (.cells (pwCells (mm : Nat) (w.heap.size + 1)) 78)).alloc (.cells (awCells w.heap.size) 75) := ⟨_, rfl⟩
  have s2 : W2.heap.size = w.heap.size + 2 := by rw [hW2]; simp
  rw [← hW2] at hps hpb
  obtain ⟨W3, hW3⟩ : ∃ W, W = W2.alloc (.cells (awCellsF (.iface 59 (.pointer (some ⟨w.heap.size, 0, none⟩)))) 75) := ⟨_, rfl⟩
  have s3 : W3.heap.size = w.heap.size + 3 := by rw [hW3]; simp [s2]
  obtain ⟨W, hW⟩ : ∃ W, W = W3.alloc (.cells (iwCells (n : Nat) .nilFunc (w.heap.size + 2)) 71) := ⟨_, rfl⟩
  have s4 : W.heap.size = w.heap.size + 4 := by rw [hW]; simp [s3]
  have h3 : W3.heap[w.heap.size + 2]? = some (.cells (awCellsF (.iface 59 (.pointer (some ⟨w.heap.size, 0, none⟩)))) 75 (0, 0)) := by
    have := heap_alloc_new W2 (.cells (awCellsF (.iface 59 (.pointer (some ⟨w.heap.size, 0, none⟩)))) 75 (0, 0))
    rw [← hW3, s2] at this
    exact this
  have h4 : W.heap[w.heap.size + 3]? = some (.cells (iwCells (n : Nat) .nilFunc (w.heap.size + 2)) 71 (0, 0)) := by
    have := heap_alloc_new W3 (.cells (iwCells (n : Nat) .nilFunc (w.heap.size + 2)) 71 (0, 0))
    rw [← hW, s3] at this
    exact this
  have e3 : W.heap[w.heap.size + 2]? = some (.cells (awCellsF (.iface 59 (.pointer (some ⟨w.heap.size, 0, none⟩)))) 75 (0, 0)) := by
    rw [hW, Below.heap_alloc _ _ _ (by omega)]; exact h3
  have hb2 : Below W2.heap.size W2 W := by
    rw [hW, hW3]
    exact ((Below.refl _ _).alloc (Nat.le_refl _) _).alloc (by simp) _
  have hf : PW (Own2 (fun k => False ∨ k = w.heap.size + 3) (w.heap.size + 2) none) w.heap.size w.heap.size (w.heap.size + 1) w.heap.size 3 mm W [] 0 := hps.grow hb2 fun k hk => by
    right
    rcases hk with hk | hk | hk
    · rcases hk with hk | hk
      · exact hk.elim
      · omega
    · omega
    · cases hk
  have ca : ∀ o, W.cell? ⟨w.heap.size + 2, o, none⟩ = (awCellsF (.iface 59 (.pointer (some ⟨w.heap.size, 0, none⟩))))[o]? := fun o => by rw [World.cell?, e3]; rfl
  have fa : ∀ o, W.frozen? ⟨w.heap.size + 2, o, none⟩ = false := fun o => by rw [World.frozen?, e3]; simp
  have ci : ∀ o, W.cell? ⟨w.heap.size + 3, o, none⟩ = (iwCells (n : Nat) .nilFunc (w.heap.size + 2))[o]? := fun o => by rw [World.cell?, h4]; rfl
  have fi : ∀ o, W.frozen? ⟨w.heap.size + 3, o, none⟩ = false := fun o => by rw [World.frozen?, h4]; simp
  refine ⟨W, by rw [hW, hW3, hW2], hpb.trans (hb2.mono hpb.size), ⟨none, by simpa [padP, lnL] using hf, by omega, fun r hr => (by cases hr), ca 0, ca 1, ca 5, ca 6, ⟨0, ca 7⟩, ca 8, ca 9, fa, fun k hk => ⟨?_, fun e => by cases e⟩⟩, by omega, ⟨_, _, _, h4, by decide⟩, ci 0, ci 1, ci 2, ci 6, ci 7, fi, fun k hk => hk.elim⟩
  rcases hk with hk | hk
  · exact hk.elim
  · omega

set_option maxRecDepth 100000 in
set_option maxHeartbeats 1000000 in
theorem insetPadded_any (n mm x cap : Nat) (ls : List (List UInt8)) (w : World) (hx : PA w x ls) (hn : n ≤ 1000) (hmm : mm ≤ 1000) (hp : ∀ y ∈ ls, Pla y ∧ y.length ≤ 900000) (hll : ls.length ≤ 1000) (hl : Fit mm (indP (List.replicate n 32) false ls.flatten)) :
    Calls Tryd.prog 24 #[.slice (some ⟨x, 0, none⟩) ls.length cap, .int .u64 (n : Nat), .int .u64 (mm : Nat)] w fun e w' => e = .returned (.string (tx (padL mm (indP (List.replicate n 32) false ls.flatten)))) ∧ Below w.heap.size w w' := by
  obtain ⟨W, hW, hbW, hiq⟩ := iq_start n mm w
  have HP := Go.Lib.hid (newPad_any (mm : Nat) w)
  have HN : Hid (Calls Tryd.prog 39 #[.iface 59 (.pointer (some ⟨w.heap.size, 0, none⟩)), .int .u64 (n : Nat), .nilFunc] ((w.alloc (.cells (pwCells (mm : Nat) (w.heap.size + 1)) 78)).alloc (.cells (awCells w.heap.size) 75)) fun e w' => e = .returned (.pointer (some ⟨w.heap.size + 3, 0, none⟩)) ∧ w' = W) := by
    have h := ipipe_any 59 w.heap.size n ((w.alloc (.cells (pwCells (mm : Nat) (w.heap.size + 1)) 78)).alloc (.cells (awCells w.heap.size) 75))
    have e1 : ((w.alloc (.cells (pwCells (mm : Nat) (w.heap.size + 1)) 78)).alloc (.cells (awCells w.heap.size) 75)).heap.size = w.heap.size + 2 := by simp
    rw [e1] at h
    rw [hW]
    exact Go.Lib.hid h
  obtain ⟨W2, hW2⟩ : ∃ W, W = (w.alloc (.cells (pwCells (mm : Nat) (w.heap.size + 1)) 78)).alloc (.cells (awCells w.heap.size) 75) := ⟨_, rfl⟩
  rw [← hW2] at HP HN
  have HI := Go.Lib.hid hiq
  have HBW := Go.Lib.hid hbW
  obtain ⟨p, hpp⟩ : ∃ p, p = List.replicate n (32 : UInt8) := ⟨_, rfl⟩
  obtain ⟨m, hm⟩ : ∃ m, m = ls.length := ⟨_, rfl⟩
  have HSTEP : Hid (∀ k (hk : k < ls.length) (wr : World), IQ (fun _ => False) w.heap.size (w.heap.size + 3) (w.heap.size + 2) w.heap.size (w.heap.size + 1) mm n wr (indP p false (ls.take k).flatten) (endS false (ls.take k).flatten) → ∀ a c, TextAt wr a ls[k].length c (tx ls[k]) → Calls Tryd.prog 34 #[.pointer (some ⟨w.heap.size + 3, 0, none⟩), .slice a ls[k].length c] wr fun e w' => e = .returned (.tuple #[.int .i64 (ls[k].length : Nat), .nilIface]) ∧ IQ (fun _ => False) w.heap.size (w.heap.size + 3) (w.heap.size + 2) w.heap.size (w.heap.size + 1) mm n w' (indP p false (ls.take (k + 1)).flatten) (endS false (ls.take (k + 1)).flatten) ∧ Below w.heap.size wr w') := fun k hk wr hI a c ht => by
    obtain ⟨hp1, hp2⟩ := hp _ (List.getElem_mem hk)
    obtain ⟨y, hy⟩ := flat_pre ls (k + 1)
    have e1 := indP_append p y (ls.take (k + 1)).flatten false
    rw [← hy, flat_take ls k hk, indP_append p ls[k]] at e1
    rw [← hpp, e1] at hl
    refine (iq_write _ _ _ _ _ mm n _ ls[k] _ a c wr hI hn ht hmm hp1 (by rw [← hpp]; exact hl.pre) hp2).mono ?_
    rintro e w' ⟨rfl, i2, o2⟩
    rw [← hpp, ← indP_append, ← endS_append, ← flat_take ls k hk] at i2
    exact ⟨rfl, i2, o2.below⟩
  have HFL : Hid (∀ wr, IQ (fun _ => False) w.heap.size (w.heap.size + 3) (w.heap.size + 2) w.heap.size (w.heap.size + 1) mm n wr (indP p false ls.flatten) (endS false ls.flatten) → Calls Tryd.prog 59 #[.pointer (some ⟨w.heap.size, 0, none⟩)] wr fun e w' => e = .returned .nilIface ∧ (∃ A cap, BA w' w.heap.size 6 A cap (padL mm (indP p false ls.flatten))) ∧ Below w.heap.size wr w') := fun wr h => by
    obtain ⟨R, hs⟩ := h.sp
    have h1 := lnL_le (indP p false ls.flatten) 0
    rw [← hpp] at hl
    obtain ⟨hl1, hl2⟩ := hl
    exact flush_any _ _ _ mm _ _ wr hs.fwd hmm (by omega) (by omega)
  have HX := Go.Lib.hid hx
  have HM := Go.Lib.hid hm
  have hm2 : m ≤ 1000 := by omega
  rw [← hm, ← hpp]
  clear hW hbW hiq hpp hm hp hl hx hll hW2
  go_enter Tryd.func24, Tryd.ntmps24
  go_wp2_with fail
  refine HP.out.mono ?_
  rintro e w0 ⟨rfl, rfl⟩
  go_wp2_with fail
  refine HN.out.mono ?_
  rintro e w1 ⟨rfl, rfl⟩
  go_wp2_with fail
  go_loopw [19] (fun i wr => ∃ k : Nat, k ≤ m ∧ i = .int .i64 (k : Nat) ∧ Hid (IQ (fun _ => False) w.heap.size (w.heap.size + 3) (w.heap.size + 2) w.heap.size (w.heap.size + 1) mm n wr (indP p false (ls.take k).flatten) (endS false (ls.take k).flatten)) ∧ Hid (Below w.heap.size w wr)) (fun i _ => m - (intOf i).toNat)
  case atStart => exact ⟨0, Nat.zero_le _, rfl, Go.Lib.hid (by simpa [indP, endS] using HI.out), HBW⟩
  case round =>
    obtain ⟨k, hk, rfl, HW, HB⟩ := hrel
    by_cases hkm : k < m
    · have hkl : k < ls.length := by rw [← HM.out]; exact hkm
      have hck : wr.cell? ⟨x, k, none⟩ = some (.string (tx ls[k])) := (HX.out.below HB.out).2 k hkl
      have hxz := (HX.out.below HB.out).1
      obtain ⟨c, W5, hcv, hb5, ht5⟩ := made_tx ls[k] wr
      have HST := Go.Lib.hid (HSTEP.out k hkl W5 (HW.out.below hb5) _ c ht5)
      have HB5 : Hid (Below w.heap.size w W5) := HB.out.trans (hb5.mono HB.out.size)
      obtain ⟨s, hs⟩ : ∃ s, s = tx ls[k] := ⟨_, rfl⟩
      obtain ⟨d, hd⟩ : ∃ d, d = ls[k].length := ⟨_, rfl⟩
      rw [← hs] at hck hcv
      rw [← hd] at hcv HST
      clear hb5 ht5 hs hd hkl
      go_wp2_with fail
      refine HST.out.mono ?_
      rintro e w6 ⟨rfl, i6, b6⟩
      have I6 := Go.Lib.hid i6
      have B6 := Go.Lib.hid (HB5.out.trans b6)
      clear i6 b6
      go_wp2_with fail
      go_roundw
      case rel => exact ⟨k + 1, by omega, by go_num, I6, B6⟩
      case measure => simp [intOf]; omega
    · have hE : k = m := by omega
      have HE : Hid (Calls Tryd.prog 59 #[.pointer (some ⟨w.heap.size, 0, none⟩)] wr fun e w' => e = .returned .nilIface ∧ (∃ A cap, BA w' w.heap.size 6 A cap (padL mm (indP p false ls.flatten))) ∧ Below w.heap.size wr w') := by
        have := HW.out
        rw [hE, HM.out, List.take_length] at this
        exact Go.Lib.hid (HFL.out wr this)
      have HCL := Go.Lib.hid (close_any _ wr _ HE.out)
      clear hE
      go_wp2_with fail
      refine HCL.out.mono ?_
      rintro e w4 ⟨rfl, ⟨A, cap4, hb4⟩, b4⟩
      have HSTR := Go.Lib.hid (pw_string w.heap.size A cap4 _ w4 hb4)
      have HB4 := Go.Lib.hid (HB.out.trans b4)
      clear hb4 b4
      go_wp2_with fail
      refine HSTR.out.mono ?_
      rintro e w5 ⟨rfl, rfl⟩
      go_wp2_with fail
      go_returns
      exact ⟨rfl, HB4.out.drew⟩
end Go.Proofs.YtbibokkclejapaaDoor
