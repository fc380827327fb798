/- DeleteBeforeCursor, Delete. -/
import Derived.Test.YtedjjimabchffaaDoorBufInsert
import Derived.Test.YtedjjimabchffaaDoorHeldTail
import Derived.Test.YtedjjimabchffaaDoorQuietTail
namespace Go.Proofs.YtedjjimabchffaaDoor
open Go.RowKit
set_option linter.unusedVariables false
set_option linter.unusedSimpArgs false

/-- A slice's middle: its address is known where something stands in it. -/
theorem run_mid {P : Program} (t e : TypeId) (ht : P.underlying t = some (.slice e)) (hi : ∀ w, (sizeOf (P.elem t)).run P w = .ok 1 w) (g n cap l h : Nat) (hl : l ≤ h) (hh : h ≤ n) (hc : n ≤ cap) :
    ∃ A, (∀ w, (Instr.slice t (.slice (some ⟨g, 0, none⟩) n cap) (some (.int .i64 (l : Nat))) (some (.int .i64 (h : Nat))) none).run P w = .ok (.slice A (h - l) (cap - l)) w) ∧ (l < cap → A = some ⟨g, l, none⟩) := by
  refine ⟨if cap = l then some ⟨g, 0, none⟩ else some ⟨g, l, none⟩, fun w => ?_, fun h => by rw [if_neg (by omega)]⟩
  have he : P.elem t = e := by simp [Program.elem, ht]
  rw [run_slice_lh w t _ n cap (by rw [he]; exact ht) .i64 .i64 l h (by omega) (by omega) (by omega), hi]
  simp only [Result.andThen, sliced, Nat.mul_one, Int.toNat_natCast]
  by_cases h : cap = l
  · rw [if_pos h, if_pos h]
  · rw [if_neg h, if_neg h]
    simp only [Option.map_some, Addr.add]
    by_cases h0 : l = 0
    · rw [if_pos h0, h0]
    · rw [if_neg h0, Nat.zero_add]

/-- The code points of a text, made in memory: the parts of it at two places. -/
theorem runes_parts (w : World) (s : ByteArray) (i k : Nat) (hs : Wide s) (hi : i ≤ k) (hk : k ≤ s.size) :
    ∃ B cap A M W, (convert 9 25 (.string s)).run Tryd.prog w = .ok (.slice (some ⟨B, 0, none⟩) s.size cap) W ∧ Below w.heap.size w W ∧ s.size ≤ cap ∧ B < W.heap.size ∧ w.heap.size ≤ B ∧
      (∀ w, (Instr.slice 25 (.slice (some ⟨B, 0, none⟩) s.size cap) (some (.int .i64 (k : Nat))) none none).run Tryd.prog w = .ok (.slice A (s.size - k) (cap - k)) w) ∧
      (∀ w, (Instr.slice 25 (.slice (some ⟨B, 0, none⟩) s.size cap) (some (.int .i64 (i : Nat))) (some (.int .i64 (k : Nat))) none).run Tryd.prog w = .ok (.slice M (k - i) (cap - i)) w) ∧
      (∀ W' : World, (∀ j, W'.cell? ⟨B, j, none⟩ = W.cell? ⟨B, j, none⟩) →
        (convert 25 9 (.slice (some ⟨B, 0, none⟩) i cap)).run Tryd.prog W' = .ok (.string (s.extract 0 i)) W' ∧
        (convert 25 9 (.slice M (k - i) (cap - i))).run Tryd.prog W' = .ok (.string (s.extract i k)) W' ∧
        (convert 25 9 (.slice A (s.size - k) (cap - k))).run Tryd.prog W' = .ok (.string (s.extract k s.size)) W') := by
  obtain ⟨ha, hsz⟩ := hs
  have hcv := fun w => run_runes (P := Tryd.prog) w 9 25 21 s Tryd.underlying9 Tryd.underlying25 Tryd.underlying21 (by omega)
  have hl := runes_ascii_length s ha
  have hcap := runeCap_ge w 21 s
  have hrow : ∀ j, j < s.size → (runeCells s (runeCap w 21 s))[j]? = some (.int .i32 (nth (runes s) j)) := fun j hj => runeCells_at s _ j (by omega)
  rw [hl] at hcv hcap
  obtain ⟨cap, hcp⟩ : ∃ cap, cap = runeCap w 21 s := ⟨_, rfl⟩
  have hcv0 := hcv w
  rw [← hcp] at hcv0 hcap hrow
  obtain ⟨A, hA, hA2⟩ := run_cut (P := Tryd.prog) 25 21 Tryd.underlying25 sizeI32 w.heap.size 0 s.size cap k k rfl hk hcap
  obtain ⟨M, hM, hM2⟩ := run_mid (P := Tryd.prog) 25 21 Tryd.underlying25 sizeI32 w.heap.size s.size cap i k hi hk hcap
  have hcell : ∀ j, j < s.size → (w.drew.alloc (.cells (runeCells s cap) 21)).cell? ⟨w.heap.size, j, none⟩ = some (.int .i32 (nth (runes s) j)) := fun j hj => by
    show ((w.alloc (.cells (runeCells s cap) 21)).drew).cell? ⟨w.heap.size, j, none⟩ = _
    simp [hrow j hj]
  have hbig : w.heap.size < (w.drew.alloc (.cells (runeCells s cap) 21)).heap.size := by simp
  obtain ⟨W, hW⟩ : ∃ W, W = w.drew.alloc (.cells (runeCells s cap) 21) := ⟨_, rfl⟩
  have hb : Below w.heap.size w W := by rw [hW]; exact ((Below.refl _ _).drew).alloc (Nat.le_refl _) _
  have hcv1 : (convert 9 25 (.string s)).run Tryd.prog w = .ok (.slice (some ⟨w.heap.size, 0, none⟩) s.size cap) W := by rw [hW]; exact hcv0
  rw [← hW] at hcell hbig
  refine ⟨w.heap.size, cap, A, M, W, hcv1, hb, hcap, hbig, Nat.le_refl _, hA, hM, fun W' hsame => ?_⟩
  have hc : ∀ j, j < s.size → W'.cell? ⟨w.heap.size, j, none⟩ = some (.int .i32 (nth (runes s) j)) := fun j hj => (hsame j).trans (hcell j hj)
  refine ⟨?_, ?_, ?_⟩
  · have := conv_sub W' w.heap.size 0 i cap s ha (by omega) (fun j _ h2 => hc j (by omega))
    rwa [Nat.zero_add] at this
  · by_cases hik : i = k
    · subst hik
      rw [Nat.sub_self, conv_none]
      have : s.extract i i = ⟨#[]⟩ := by
        apply ba_ext; rw [extract_list]; simp
      rw [this]
    · rw [hM2 (by omega)]
      have := conv_sub W' w.heap.size i (k - i) (cap - i) s ha (by omega) (fun j _ h2 => hc j (by omega))
      rwa [show i + (k - i) = k by omega] at this
  · exact conv_tail W' A w.heap.size k cap s ha hk hcap hA2 hc (cap - k)

set_option maxRecDepth 100000 in
set_option maxHeartbeats 4000000 in
theorem delete_before_some (bb lb : Nat) (s : ByteArray) (k n i : Nat) (w : World) (h : Buf w bb lb s k) (hs : Wide s) (hk : k ≤ s.size) (hn : n ≤ 2000) (hk0 : 0 < k) (hi : i = k - n) :
    Calls Tryd.prog 36 #[.pointer (some ⟨bb, 0, none⟩), .int .i64 (n : Nat)] w fun e w' => e = .returned (.string (s.extract i k)) ∧ Buf w' bb lb (s.extract 0 i ++ s.extract k s.size) i ∧ Own bb lb w w' := by
  have H := Go.Lib.hid h
  have HI := Go.Lib.hid hi
  have hik : i ≤ k := by omega
  have hss := hs.2
  clear h hi
  go_enter Tryd.func36, Tryd.ntmps36
  go_wp2_with fail
  refine (text_same bb lb s k w H.out).mono ?_
  rintro e w1 ⟨rfl, s1, s2, s3, s4⟩
  have H1 : Hid (Buf w1 bb lb s k) := H.out.like s1 s2 s3
  have B1 : Hid (Own bb lb w w1) := Own.of (s4 _)
  clear s1 s2 s3 s4
  obtain ⟨B, cap, A, M, W, hcv, hb, hcap, hBs, hBl, hA, hM, hF⟩ := runes_parts w1 s i k hs hik hk
  have HF := Go.Lib.hid hF
  have H2 : Hid (Buf W bb lb s k) := H1.out.below hb
  have B2 : Hid (Own bb lb w W) := B1.out.after hb
  clear hb hF
  have hm0 := (HF.out W (fun _ => rfl)).2.1
  have hp1 := (HF.out W.drew (fun _ => rfl)).1
  have ha1 := (HF.out W.drew (fun _ => rfl)).2.2
  have hDs : (s.extract i k).size = k - i := size_sub s i k (by omega)
  have hDa : Wide (s.extract i k) := ⟨hs.1.extract i k, by omega⟩
  obtain ⟨D, hD⟩ : ∃ D, D = s.extract i k := ⟨_, rfl⟩
  rw [← hD] at hm0 hDs hDa
  have HD := Go.Lib.hid hD
  clear hD
  obtain ⟨B', cap', A', M', W2, hcv2, hb2, -, -, -, -, -, -⟩ := runes_parts W.drew D 0 0 hDa (Nat.le_refl _) (Nat.zero_le _)
  have b2' : Hid (Below W.heap.size W W2) := ((Below.refl _ _).drew).trans hb2
  have hp2 := (HF.out W2 (fun j => b2'.out.cell (p := ⟨B, j, none⟩) hBs)).1
  have ha2 := (HF.out W2 (fun j => b2'.out.cell (p := ⟨B, j, none⟩) hBs)).2.2
  have H3 : Hid (Buf W2 bb lb s k) := H2.out.below b2'.out
  clear hb2
  have c2 := H2.out.c2
  have c2' := H3.out.c2
  have hk1 : (0 : Int) < k := by omega
  have hov0 : (9223372036854775807 < (s.extract 0 i).size + (s.extract k s.size).size) = False := by
    have hx2 := size_sub s k s.size (by omega)
    have hx1 := size_sub s 0 i (by omega)
    simp; omega
  obtain ⟨X, hX⟩ : ∃ X, X = s.extract 0 i := ⟨_, rfl⟩
  obtain ⟨Y, hY⟩ : ∃ Y, Y = s.extract k s.size := ⟨_, rfl⟩
  rw [← hX] at hp1 hp2 hov0
  rw [← hY] at ha1 ha2 hov0
  have hov := hov0
  have HX := Go.Lib.hid hX
  have HY := Go.Lib.hid hY
  clear hX hY hov0
  have hwr : IntKind.i64.wrap ((k : Int) - ((k - i : Nat) : Int)) = (i : Int) := by rw [IntWalk.i64_in _ (by omega)]; omega
  have HS : Hid (Calls Tryd.prog 28 #[.pointer (some ⟨bb, 0, none⟩), .pointer (some ⟨W2.heap.size, 0, none⟩)] (W2.alloc (.cells #[.string (X ++ Y), .int .i64 (i : Nat)] 50)) fun e w' => e = .returned (.tuple #[]) ∧ Hid (Buf w' bb lb (X ++ Y) i ∧ Own bb lb w w')) := by
    have hsz := H3.out.sz
    have hlt := H3.out.lt
    refine (set_document bb lb W2.heap.size s (X ++ Y) k i _ (H3.out.below ((Below.refl _ _).alloc (Nat.le_refl _) _)) ⟨by simp [go_sem], by simp [go_sem], by simp⟩ (DocBlock.new _ _) (by omega) (by omega)).mono ?_
    rintro e w' ⟨he, h1, h2⟩
    exact ⟨he, h1, ((B2.out.after b2'.out).alloc _).trans h2⟩
  have H3c : Hid ((W2.alloc (.cells #[.string (X ++ Y), .int .i64 (i : Nat)] 50)).cell? ⟨bb, 2, none⟩ = some (.int .i64 (k : Nat)) ∧
      (convert 25 9 (.slice (some ⟨B, 0, none⟩) i cap)).run Tryd.prog (W2.alloc (.cells #[.string (X ++ Y), .int .i64 (i : Nat)] 50)) = .ok (.string X) (W2.alloc (.cells #[.string (X ++ Y), .int .i64 (i : Nat)] 50)) ∧
      (convert 25 9 (.slice A (s.size - k) (cap - k))).run Tryd.prog (W2.alloc (.cells #[.string (X ++ Y), .int .i64 (i : Nat)] 50)) = .ok (.string Y) (W2.alloc (.cells #[.string (X ++ Y), .int .i64 (i : Nat)] 50))) := by
    have hb : Below W.heap.size W (W2.alloc (.cells #[.string (X ++ Y), .int .i64 (i : Nat)] 50)) := b2'.out.alloc b2'.out.size _
    have := HF.out _ (fun j => hb.cell (p := ⟨B, j, none⟩) hBs)
    rw [HX.out, HY.out]
    rw [HX.out, HY.out] at this hb
    exact ⟨(H2.out.below hb).c2, this.1, this.2.2⟩
  by_cases hkn : (k : Int) < n
  · have hw : IntKind.i64.wrap ((k : Int) - n) = (k : Int) - n := IntWalk.i64_in _ (by omega)
    have hneg : (k : Int) - n < 0 := by omega
    obtain rfl : i = 0 := by have := HI.out; omega
    have hM0 : ∀ w, (Instr.slice 25 (.slice (some ⟨B, 0, none⟩) s.size cap) (some (.int .i64 0)) (some (.int .i64 (k : Nat))) none).run Tryd.prog w = .ok (.slice M (k - 0) (cap - 0)) w := hM
    have hwr0 : IntKind.i64.wrap ((k : Int) - ((k - 0 : Nat) : Int)) = 0 := hwr
    clear hM hwr
    simp only [Nat.sub_zero] at hM0 hm0 hDs hwr0
    have hcp0 : 0 ≤ cap := by omega
    have hk3 : (k : Int) ≤ cap := by omega
    have hk2 : (k : Int) ≤ s.size := by omega
    go_wp2_with fail
    refine region_held_tail 23 (S := (fun w' => w'.cell? ⟨bb, 2, none⟩ = some (.int .i64 (k : Nat)) ∧ (convert 25 9 (.slice (some ⟨B, 0, none⟩) 0 cap)).run Tryd.prog w' = .ok (.string X) w' ∧ (convert 25 9 (.slice A (s.size - k) (cap - k))).run Tryd.prog w' = .ok (.string Y) w')) (by kernel_rfl) (by kernel_rfl) ?_ (fun hHeld => ?_)
    · (try dsimp only); first | done | (first | exact ⟨c2, hp1, ha1⟩ | exact ⟨c2', hp2, ha2⟩ | exact H3c.out)
    refine HeldT.take (i := 0) (v := ?_) (by simp only [List.getElem?_toArray, List.getElem?_cons_succ, List.getElem?_cons_zero]; rfl) (by kernel_rfl) (by kernel_rfl) (by kernel_rfl) (by kernel_rfl) (by exact fun _ _ _ h => h) ?_ (by assumption) ?_
    rotate_left
    · refine Or.inl ⟨by rfl, ?_⟩
      (intro w hSw; (try dsimp only at hSw); go_simp; try with_reducible rfl)
    try simp only [Act.put, List.setIfInBounds_toArray, List.set_cons_zero, List.set_cons_succ]
    refine HeldT.take (i := 1) (v := ?_) (by simp only [List.getElem?_toArray, List.getElem?_cons_succ, List.getElem?_cons_zero]; rfl) (by kernel_rfl) (by kernel_rfl) (by kernel_rfl) (by kernel_rfl) (by exact fun _ _ _ h => h) ?_ (by assumption) ?_
    rotate_left
    · refine Or.inl ⟨by rfl, ?_⟩
      (intro w hSw; (try dsimp only at hSw); go_simp; try with_reducible rfl)
    try simp only [Act.put, List.setIfInBounds_toArray, List.set_cons_zero, List.set_cons_succ]
    refine HeldT.take (i := 2) (v := ?_) (by simp only [List.getElem?_toArray, List.getElem?_cons_succ, List.getElem?_cons_zero]; rfl) (by kernel_rfl) (by kernel_rfl) (by kernel_rfl) (by kernel_rfl) (by exact fun _ _ _ h => h) ?_ (by assumption) ?_
    rotate_left
    · refine Or.inl ⟨by rfl, ?_⟩
      (intro w hSw; (try dsimp only at hSw); go_simp; try with_reducible rfl)
    try simp only [Act.put, List.setIfInBounds_toArray, List.set_cons_zero, List.set_cons_succ]
    refine HeldT.take (i := 3) (v := ?_) (by simp only [List.getElem?_toArray, List.getElem?_cons_succ, List.getElem?_cons_zero]; rfl) (by kernel_rfl) (by kernel_rfl) (by kernel_rfl) (by kernel_rfl) (by exact fun _ _ _ h => h) ?_ (by assumption) ?_
    rotate_left
    · refine Or.inl ⟨by rfl, ?_⟩
      (intro w hSw; (try dsimp only at hSw); go_simp; try with_reducible rfl)
    try simp only [Act.put, List.setIfInBounds_toArray, List.set_cons_zero, List.set_cons_succ]
    refine HeldT.take (i := 4) (v := ?_) (by simp only [List.getElem?_toArray, List.getElem?_cons_succ, List.getElem?_cons_zero]; rfl) (by kernel_rfl) (by kernel_rfl) (by kernel_rfl) (by kernel_rfl) (by exact fun _ _ _ h => h) ?_ (by assumption) ?_
    rotate_left
    · refine Or.inl ⟨by rfl, ?_⟩
      (intro w hSw; (try dsimp only at hSw); go_simp; try with_reducible rfl)
    try simp only [Act.put, List.setIfInBounds_toArray, List.set_cons_zero, List.set_cons_succ]
    refine HeldT.take (i := 5) (v := ?_) (by simp only [List.getElem?_toArray, List.getElem?_cons_succ, List.getElem?_cons_zero]; rfl) (by kernel_rfl) (by kernel_rfl) (by kernel_rfl) (by kernel_rfl) (by exact fun _ _ _ h => h) ?_ (by assumption) ?_
    rotate_left
    · refine Or.inl ⟨by rfl, ?_⟩
      (intro w hSw; (try dsimp only at hSw); go_simp; try with_reducible rfl)
    try simp only [Act.put, List.setIfInBounds_toArray, List.set_cons_zero, List.set_cons_succ]
    refine HeldT.take (i := 6) (v := ?_) (by simp only [List.getElem?_toArray, List.getElem?_cons_succ, List.getElem?_cons_zero]; rfl) (by kernel_rfl) (by kernel_rfl) (by kernel_rfl) (by kernel_rfl) (by exact fun _ _ _ h => h) ?_ (by assumption) ?_
    rotate_left
    · refine Or.inl ⟨by rfl, ?_⟩
      (intro w hSw; (try dsimp only at hSw); go_simp; try with_reducible rfl)
    try simp only [Act.put, List.setIfInBounds_toArray, List.set_cons_zero, List.set_cons_succ]
    refine HeldT.take (i := 7) (v := ?_) (by simp only [List.getElem?_toArray, List.getElem?_cons_succ, List.getElem?_cons_zero]; rfl) (by kernel_rfl) (by kernel_rfl) (by kernel_rfl) (by kernel_rfl) (by exact fun _ _ _ h => h) ?_ (by assumption) ?_
    rotate_left
    · refine Or.inl ⟨by rfl, ?_⟩
      (intro w hSw; (try dsimp only at hSw); go_simp; try with_reducible rfl)
    try simp only [Act.put, List.setIfInBounds_toArray, List.set_cons_zero, List.set_cons_succ]
    refine HeldT.take (i := 8) (v := ?_) (by simp only [List.getElem?_toArray, List.getElem?_cons_succ, List.getElem?_cons_zero]; rfl) (by kernel_rfl) (by kernel_rfl) (by kernel_rfl) (by kernel_rfl) (by exact fun _ _ _ h => h) ?_ (by assumption) ?_
    rotate_left
    · refine Or.inl ⟨by rfl, ?_⟩
      (intro w hSw; (try dsimp only at hSw); go_simp; try with_reducible rfl)
    try simp only [Act.put, List.setIfInBounds_toArray, List.set_cons_zero, List.set_cons_succ]
    refine HeldT.take (i := 9) (v := ?_) (by simp only [List.getElem?_toArray, List.getElem?_cons_succ, List.getElem?_cons_zero]; rfl) (by kernel_rfl) (by kernel_rfl) (by kernel_rfl) (by kernel_rfl) (by exact fun _ _ _ h => h) ?_ (by assumption) ?_
    rotate_left
    · refine Or.inl ⟨by rfl, ?_⟩
      (intro w hSw; (try dsimp only at hSw); go_simp; try with_reducible rfl)
    try simp only [Act.put, List.setIfInBounds_toArray, List.set_cons_zero, List.set_cons_succ]
    refine HeldT.take (i := 10) (v := ?_) (by simp only [List.getElem?_toArray, List.getElem?_cons_succ, List.getElem?_cons_zero]; rfl) (by kernel_rfl) (by kernel_rfl) (by kernel_rfl) (by kernel_rfl) (by exact fun _ _ _ h => h) ?_ (by assumption) ?_
    rotate_left
    · refine Or.inl ⟨by rfl, ?_⟩
      (intro w hSw; (try dsimp only at hSw); go_simp; try with_reducible rfl)
    try simp only [Act.put, List.setIfInBounds_toArray, List.set_cons_zero, List.set_cons_succ]
    refine HeldT.take (i := 11) (v := ?_) (by simp only [List.getElem?_toArray, List.getElem?_cons_succ, List.getElem?_cons_zero]; rfl) (by kernel_rfl) (by kernel_rfl) (by kernel_rfl) (by kernel_rfl) (by exact fun _ _ _ h => h) ?_ (by assumption) ?_
    rotate_left
    · refine Or.inl ⟨by rfl, ?_⟩
      (intro w hSw; (try dsimp only at hSw); go_simp; try with_reducible rfl)
    try simp only [Act.put, List.setIfInBounds_toArray, List.set_cons_zero, List.set_cons_succ]
    refine HeldT.take (i := 12) (v := ?_) (by simp only [List.getElem?_toArray, List.getElem?_cons_succ, List.getElem?_cons_zero]; rfl) (by kernel_rfl) (by kernel_rfl) (by kernel_rfl) (by kernel_rfl) (by exact fun _ _ _ h => h) ?_ (by assumption) ?_
    rotate_left
    · refine Or.inl ⟨by rfl, ?_⟩
      (intro w hSw; (try dsimp only at hSw); go_simp; try with_reducible rfl)
    try simp only [Act.put, List.setIfInBounds_toArray, List.set_cons_zero, List.set_cons_succ]
    refine HeldT.take (i := 13) (v := ?_) (by simp only [List.getElem?_toArray, List.getElem?_cons_succ, List.getElem?_cons_zero]; rfl) (by kernel_rfl) (by kernel_rfl) (by kernel_rfl) (by kernel_rfl) (by exact fun _ _ _ h => h) ?_ (by assumption) ?_
    rotate_left
    · refine Or.inl ⟨by rfl, ?_⟩
      (intro w hSw; (try dsimp only at hSw); go_simp; try with_reducible rfl)
    try simp only [Act.put, List.setIfInBounds_toArray, List.set_cons_zero, List.set_cons_succ]
    refine HeldT.take (i := 14) (v := ?_) (by simp only [List.getElem?_toArray, List.getElem?_cons_succ, List.getElem?_cons_zero]; rfl) (by kernel_rfl) (by kernel_rfl) (by kernel_rfl) (by kernel_rfl) (by exact fun _ _ _ h => h) ?_ (by assumption) ?_
    rotate_left
    · refine Or.inl ⟨by rfl, ?_⟩
      (intro w hSw; (try dsimp only at hSw); go_simp; try with_reducible rfl)
    try simp only [Act.put, List.setIfInBounds_toArray, List.set_cons_zero, List.set_cons_succ]
    refine HeldT.take (i := 15) (v := ?_) (by simp only [List.getElem?_toArray, List.getElem?_cons_succ, List.getElem?_cons_zero]; rfl) (by kernel_rfl) (by kernel_rfl) (by kernel_rfl) (by kernel_rfl) (by exact fun _ _ _ h => h) ?_ (by assumption) ?_
    rotate_left
    · refine Or.inl ⟨by rfl, ?_⟩
      (intro w hSw; (try dsimp only at hSw); go_simp; try with_reducible rfl)
    try simp only [Act.put, List.setIfInBounds_toArray, List.set_cons_zero, List.set_cons_succ]
    refine HeldT.take (i := 16) (v := ?_) (by simp only [List.getElem?_toArray, List.getElem?_cons_succ, List.getElem?_cons_zero]; rfl) (by kernel_rfl) (by kernel_rfl) (by kernel_rfl) (by kernel_rfl) (by exact fun _ _ _ h => h) ?_ (by assumption) ?_
    rotate_left
    · refine Or.inl ⟨by rfl, ?_⟩
      (intro w hSw; (try dsimp only at hSw); go_simp; try with_reducible rfl)
    try simp only [Act.put, List.setIfInBounds_toArray, List.set_cons_zero, List.set_cons_succ]
    refine HeldT.take (i := 17) (v := ?_) (by simp only [List.getElem?_toArray, List.getElem?_cons_succ, List.getElem?_cons_zero]; rfl) (by kernel_rfl) (by kernel_rfl) (by kernel_rfl) (by kernel_rfl) (by exact fun _ _ _ h => h) ?_ (by assumption) ?_
    rotate_left
    · refine Or.inl ⟨by rfl, ?_⟩
      (intro w hSw; (try dsimp only at hSw); go_simp; try with_reducible rfl)
    try simp only [Act.put, List.setIfInBounds_toArray, List.set_cons_zero, List.set_cons_succ]
    refine HeldT.one (i := 18) (by simp only [List.getElem?_toArray, List.getElem?_cons_succ, List.getElem?_cons_zero]; rfl) (by kernel_rfl) (by kernel_rfl) (fun K hK => ?_)
    go_simp
    refine hK.out _ _ ?_ (fun hHeld => ?_)
    · (try dsimp only); first | done | (first | exact ⟨c2, hp1, ha1⟩ | exact ⟨c2', hp2, ha2⟩ | exact H3c.out)
    clear hK K
    try simp only [Act.put, List.setIfInBounds_toArray, List.set_cons_zero, List.set_cons_succ]
    refine HeldT.take (i := 19) (v := ?_) (by simp only [List.getElem?_toArray, List.getElem?_cons_succ, List.getElem?_cons_zero]; rfl) (by kernel_rfl) (by kernel_rfl) (by kernel_rfl) (by kernel_rfl) (by exact fun _ _ _ h => h) ?_ (by assumption) ?_
    rotate_left
    · refine Or.inl ⟨by rfl, ?_⟩
      (intro w hSw; (try dsimp only at hSw); go_simp; try with_reducible rfl)
    try simp only [Act.put, List.setIfInBounds_toArray, List.set_cons_zero, List.set_cons_succ]
    refine HeldT.take (i := 20) (v := ?_) (by simp only [List.getElem?_toArray, List.getElem?_cons_succ, List.getElem?_cons_zero]; rfl) (by kernel_rfl) (by kernel_rfl) (by kernel_rfl) (by kernel_rfl) (by exact fun _ _ _ h => h) ?_ (by assumption) ?_
    rotate_left
    · refine Or.inl ⟨by rfl, ?_⟩
      (intro w hSw; (try dsimp only at hSw); go_simp; try with_reducible rfl)
    try simp only [Act.put, List.setIfInBounds_toArray, List.set_cons_zero, List.set_cons_succ]
    refine HeldT.take (i := 21) (v := ?_) (by simp only [List.getElem?_toArray, List.getElem?_cons_succ, List.getElem?_cons_zero]; rfl) (by kernel_rfl) (by kernel_rfl) (by kernel_rfl) (by kernel_rfl) (by exact fun _ _ _ h => h) ?_ (by assumption) ?_
    rotate_left
    · refine Or.inl ⟨by rfl, ?_⟩
      (intro w hSw; (try dsimp only at hSw); go_simp; try with_reducible rfl)
    try simp only [Act.put, List.setIfInBounds_toArray, List.set_cons_zero, List.set_cons_succ]
    refine HeldT.one (i := 22) (by simp only [List.getElem?_toArray, List.getElem?_cons_succ, List.getElem?_cons_zero]; rfl) (by kernel_rfl) (by kernel_rfl) (fun K hK => ?_)
    go_simp
    refine hK.out _ _ ?_ (fun hHeld => ?_)
    · (try dsimp only); first | done | (first | exact ⟨c2, hp1, ha1⟩ | exact ⟨c2', hp2, ha2⟩ | exact H3c.out)
    clear hK K
    try simp only [Act.put, List.setIfInBounds_toArray, List.set_cons_zero, List.set_cons_succ]
    refine HeldT.tail (by kernel_rfl) rfl ?_
    go_wp2_with fail
    refine HS.out.mono ?_
    rintro e w3 ⟨rfl, H4⟩
    go_wp2_with fail
    go_returns
    exact ⟨by rw [HD.out]; rfl, by rw [← HX.out, ← HY.out]; exact H4.out.1, H4.out.2⟩
  · have hw : IntKind.i64.wrap ((k : Int) - n) = (i : Int) := by rw [IntWalk.i64_in _ (by omega)]; have := HI.out; omega
    have hi0 : ¬ (i : Int) < 0 := by omega
    have hi1 : (i : Int) ≤ k := by omega
    have hi2 : (k : Int) ≤ s.size := by omega
    have hi3 : (k : Int) ≤ cap := by omega
    have hi4 : i ≤ cap := by omega
    go_wp2_with fail
    refine region_held_tail 23 (S := (fun w' => w'.cell? ⟨bb, 2, none⟩ = some (.int .i64 (k : Nat)) ∧ (convert 25 9 (.slice (some ⟨B, 0, none⟩) i cap)).run Tryd.prog w' = .ok (.string X) w' ∧ (convert 25 9 (.slice A (s.size - k) (cap - k))).run Tryd.prog w' = .ok (.string Y) w')) (by kernel_rfl) (by kernel_rfl) ?_ (fun hHeld => ?_)
    · (try dsimp only); first | done | (first | exact ⟨c2, hp1, ha1⟩ | exact ⟨c2', hp2, ha2⟩ | exact H3c.out)
    refine HeldT.take (i := 0) (v := ?_) (by simp only [List.getElem?_toArray, List.getElem?_cons_succ, List.getElem?_cons_zero]; rfl) (by kernel_rfl) (by kernel_rfl) (by kernel_rfl) (by kernel_rfl) (by exact fun _ _ _ h => h) ?_ (by assumption) ?_
    rotate_left
    · refine Or.inl ⟨by rfl, ?_⟩
      (intro w hSw; (try dsimp only at hSw); go_simp; try with_reducible rfl)
    try simp only [Act.put, List.setIfInBounds_toArray, List.set_cons_zero, List.set_cons_succ]
    refine HeldT.take (i := 1) (v := ?_) (by simp only [List.getElem?_toArray, List.getElem?_cons_succ, List.getElem?_cons_zero]; rfl) (by kernel_rfl) (by kernel_rfl) (by kernel_rfl) (by kernel_rfl) (by exact fun _ _ _ h => h) ?_ (by assumption) ?_
    rotate_left
    · refine Or.inl ⟨by rfl, ?_⟩
      (intro w hSw; (try dsimp only at hSw); go_simp; try with_reducible rfl)
    try simp only [Act.put, List.setIfInBounds_toArray, List.set_cons_zero, List.set_cons_succ]
    refine HeldT.take (i := 2) (v := ?_) (by simp only [List.getElem?_toArray, List.getElem?_cons_succ, List.getElem?_cons_zero]; rfl) (by kernel_rfl) (by kernel_rfl) (by kernel_rfl) (by kernel_rfl) (by exact fun _ _ _ h => h) ?_ (by assumption) ?_
    rotate_left
    · refine Or.inl ⟨by rfl, ?_⟩
      (intro w hSw; (try dsimp only at hSw); go_simp; try with_reducible rfl)
    try simp only [Act.put, List.setIfInBounds_toArray, List.set_cons_zero, List.set_cons_succ]
    refine HeldT.take (i := 3) (v := ?_) (by simp only [List.getElem?_toArray, List.getElem?_cons_succ, List.getElem?_cons_zero]; rfl) (by kernel_rfl) (by kernel_rfl) (by kernel_rfl) (by kernel_rfl) (by exact fun _ _ _ h => h) ?_ (by assumption) ?_
    rotate_left
    · refine Or.inl ⟨by rfl, ?_⟩
      (intro w hSw; (try dsimp only at hSw); go_simp; try with_reducible rfl)
    try simp only [Act.put, List.setIfInBounds_toArray, List.set_cons_zero, List.set_cons_succ]
    refine HeldT.take (i := 4) (v := ?_) (by simp only [List.getElem?_toArray, List.getElem?_cons_succ, List.getElem?_cons_zero]; rfl) (by kernel_rfl) (by kernel_rfl) (by kernel_rfl) (by kernel_rfl) (by exact fun _ _ _ h => h) ?_ (by assumption) ?_
    rotate_left
    · refine Or.inl ⟨by rfl, ?_⟩
      (intro w hSw; (try dsimp only at hSw); go_simp; try with_reducible rfl)
    try simp only [Act.put, List.setIfInBounds_toArray, List.set_cons_zero, List.set_cons_succ]
    refine HeldT.take (i := 5) (v := ?_) (by simp only [List.getElem?_toArray, List.getElem?_cons_succ, List.getElem?_cons_zero]; rfl) (by kernel_rfl) (by kernel_rfl) (by kernel_rfl) (by kernel_rfl) (by exact fun _ _ _ h => h) ?_ (by assumption) ?_
    rotate_left
    · refine Or.inl ⟨by rfl, ?_⟩
      (intro w hSw; (try dsimp only at hSw); go_simp; try with_reducible rfl)
    try simp only [Act.put, List.setIfInBounds_toArray, List.set_cons_zero, List.set_cons_succ]
    refine HeldT.take (i := 6) (v := ?_) (by simp only [List.getElem?_toArray, List.getElem?_cons_succ, List.getElem?_cons_zero]; rfl) (by kernel_rfl) (by kernel_rfl) (by kernel_rfl) (by kernel_rfl) (by exact fun _ _ _ h => h) ?_ (by assumption) ?_
    rotate_left
    · refine Or.inl ⟨by rfl, ?_⟩
      (intro w hSw; (try dsimp only at hSw); go_simp; try with_reducible rfl)
    try simp only [Act.put, List.setIfInBounds_toArray, List.set_cons_zero, List.set_cons_succ]
    refine HeldT.take (i := 7) (v := ?_) (by simp only [List.getElem?_toArray, List.getElem?_cons_succ, List.getElem?_cons_zero]; rfl) (by kernel_rfl) (by kernel_rfl) (by kernel_rfl) (by kernel_rfl) (by exact fun _ _ _ h => h) ?_ (by assumption) ?_
    rotate_left
    · refine Or.inl ⟨by rfl, ?_⟩
      (intro w hSw; (try dsimp only at hSw); go_simp; try with_reducible rfl)
    try simp only [Act.put, List.setIfInBounds_toArray, List.set_cons_zero, List.set_cons_succ]
    refine HeldT.take (i := 8) (v := ?_) (by simp only [List.getElem?_toArray, List.getElem?_cons_succ, List.getElem?_cons_zero]; rfl) (by kernel_rfl) (by kernel_rfl) (by kernel_rfl) (by kernel_rfl) (by exact fun _ _ _ h => h) ?_ (by assumption) ?_
    rotate_left
    · refine Or.inl ⟨by rfl, ?_⟩
      (intro w hSw; (try dsimp only at hSw); go_simp; try with_reducible rfl)
    try simp only [Act.put, List.setIfInBounds_toArray, List.set_cons_zero, List.set_cons_succ]
    refine HeldT.take (i := 9) (v := ?_) (by simp only [List.getElem?_toArray, List.getElem?_cons_succ, List.getElem?_cons_zero]; rfl) (by kernel_rfl) (by kernel_rfl) (by kernel_rfl) (by kernel_rfl) (by exact fun _ _ _ h => h) ?_ (by assumption) ?_
    rotate_left
    · refine Or.inl ⟨by rfl, ?_⟩
      (intro w hSw; (try dsimp only at hSw); go_simp; try with_reducible rfl)
    try simp only [Act.put, List.setIfInBounds_toArray, List.set_cons_zero, List.set_cons_succ]
    refine HeldT.take (i := 10) (v := ?_) (by simp only [List.getElem?_toArray, List.getElem?_cons_succ, List.getElem?_cons_zero]; rfl) (by kernel_rfl) (by kernel_rfl) (by kernel_rfl) (by kernel_rfl) (by exact fun _ _ _ h => h) ?_ (by assumption) ?_
    rotate_left
    · refine Or.inl ⟨by rfl, ?_⟩
      (intro w hSw; (try dsimp only at hSw); go_simp; try with_reducible rfl)
    try simp only [Act.put, List.setIfInBounds_toArray, List.set_cons_zero, List.set_cons_succ]
    refine HeldT.take (i := 11) (v := ?_) (by simp only [List.getElem?_toArray, List.getElem?_cons_succ, List.getElem?_cons_zero]; rfl) (by kernel_rfl) (by kernel_rfl) (by kernel_rfl) (by kernel_rfl) (by exact fun _ _ _ h => h) ?_ (by assumption) ?_
    rotate_left
    · refine Or.inl ⟨by rfl, ?_⟩
      (intro w hSw; (try dsimp only at hSw); go_simp; try with_reducible rfl)
    try simp only [Act.put, List.setIfInBounds_toArray, List.set_cons_zero, List.set_cons_succ]
    refine HeldT.take (i := 12) (v := ?_) (by simp only [List.getElem?_toArray, List.getElem?_cons_succ, List.getElem?_cons_zero]; rfl) (by kernel_rfl) (by kernel_rfl) (by kernel_rfl) (by kernel_rfl) (by exact fun _ _ _ h => h) ?_ (by assumption) ?_
    rotate_left
    · refine Or.inl ⟨by rfl, ?_⟩
      (intro w hSw; (try dsimp only at hSw); go_simp; try with_reducible rfl)
    try simp only [Act.put, List.setIfInBounds_toArray, List.set_cons_zero, List.set_cons_succ]
    refine HeldT.take (i := 13) (v := ?_) (by simp only [List.getElem?_toArray, List.getElem?_cons_succ, List.getElem?_cons_zero]; rfl) (by kernel_rfl) (by kernel_rfl) (by kernel_rfl) (by kernel_rfl) (by exact fun _ _ _ h => h) ?_ (by assumption) ?_
    rotate_left
    · refine Or.inl ⟨by rfl, ?_⟩
      (intro w hSw; (try dsimp only at hSw); go_simp; try with_reducible rfl)
    try simp only [Act.put, List.setIfInBounds_toArray, List.set_cons_zero, List.set_cons_succ]
    refine HeldT.take (i := 14) (v := ?_) (by simp only [List.getElem?_toArray, List.getElem?_cons_succ, List.getElem?_cons_zero]; rfl) (by kernel_rfl) (by kernel_rfl) (by kernel_rfl) (by kernel_rfl) (by exact fun _ _ _ h => h) ?_ (by assumption) ?_
    rotate_left
    · refine Or.inl ⟨by rfl, ?_⟩
      (intro w hSw; (try dsimp only at hSw); go_simp; try with_reducible rfl)
    try simp only [Act.put, List.setIfInBounds_toArray, List.set_cons_zero, List.set_cons_succ]
    refine HeldT.take (i := 15) (v := ?_) (by simp only [List.getElem?_toArray, List.getElem?_cons_succ, List.getElem?_cons_zero]; rfl) (by kernel_rfl) (by kernel_rfl) (by kernel_rfl) (by kernel_rfl) (by exact fun _ _ _ h => h) ?_ (by assumption) ?_
    rotate_left
    · refine Or.inl ⟨by rfl, ?_⟩
      (intro w hSw; (try dsimp only at hSw); go_simp; try with_reducible rfl)
    try simp only [Act.put, List.setIfInBounds_toArray, List.set_cons_zero, List.set_cons_succ]
    refine HeldT.take (i := 16) (v := ?_) (by simp only [List.getElem?_toArray, List.getElem?_cons_succ, List.getElem?_cons_zero]; rfl) (by kernel_rfl) (by kernel_rfl) (by kernel_rfl) (by kernel_rfl) (by exact fun _ _ _ h => h) ?_ (by assumption) ?_
    rotate_left
    · refine Or.inl ⟨by rfl, ?_⟩
      (intro w hSw; (try dsimp only at hSw); go_simp; try with_reducible rfl)
    try simp only [Act.put, List.setIfInBounds_toArray, List.set_cons_zero, List.set_cons_succ]
    refine HeldT.take (i := 17) (v := ?_) (by simp only [List.getElem?_toArray, List.getElem?_cons_succ, List.getElem?_cons_zero]; rfl) (by kernel_rfl) (by kernel_rfl) (by kernel_rfl) (by kernel_rfl) (by exact fun _ _ _ h => h) ?_ (by assumption) ?_
    rotate_left
    · refine Or.inl ⟨by rfl, ?_⟩
      (intro w hSw; (try dsimp only at hSw); go_simp; try with_reducible rfl)
    try simp only [Act.put, List.setIfInBounds_toArray, List.set_cons_zero, List.set_cons_succ]
    refine HeldT.one (i := 18) (by simp only [List.getElem?_toArray, List.getElem?_cons_succ, List.getElem?_cons_zero]; rfl) (by kernel_rfl) (by kernel_rfl) (fun K hK => ?_)
    go_simp
    refine hK.out _ _ ?_ (fun hHeld => ?_)
    · (try dsimp only); first | done | (first | exact ⟨c2, hp1, ha1⟩ | exact ⟨c2', hp2, ha2⟩ | exact H3c.out)
    clear hK K
    try simp only [Act.put, List.setIfInBounds_toArray, List.set_cons_zero, List.set_cons_succ]
    refine HeldT.take (i := 19) (v := ?_) (by simp only [List.getElem?_toArray, List.getElem?_cons_succ, List.getElem?_cons_zero]; rfl) (by kernel_rfl) (by kernel_rfl) (by kernel_rfl) (by kernel_rfl) (by exact fun _ _ _ h => h) ?_ (by assumption) ?_
    rotate_left
    · refine Or.inl ⟨by rfl, ?_⟩
      (intro w hSw; (try dsimp only at hSw); go_simp; try with_reducible rfl)
    try simp only [Act.put, List.setIfInBounds_toArray, List.set_cons_zero, List.set_cons_succ]
    refine HeldT.take (i := 20) (v := ?_) (by simp only [List.getElem?_toArray, List.getElem?_cons_succ, List.getElem?_cons_zero]; rfl) (by kernel_rfl) (by kernel_rfl) (by kernel_rfl) (by kernel_rfl) (by exact fun _ _ _ h => h) ?_ (by assumption) ?_
    rotate_left
    · refine Or.inl ⟨by rfl, ?_⟩
      (intro w hSw; (try dsimp only at hSw); go_simp; try with_reducible rfl)
    try simp only [Act.put, List.setIfInBounds_toArray, List.set_cons_zero, List.set_cons_succ]
    refine HeldT.take (i := 21) (v := ?_) (by simp only [List.getElem?_toArray, List.getElem?_cons_succ, List.getElem?_cons_zero]; rfl) (by kernel_rfl) (by kernel_rfl) (by kernel_rfl) (by kernel_rfl) (by exact fun _ _ _ h => h) ?_ (by assumption) ?_
    rotate_left
    · refine Or.inl ⟨by rfl, ?_⟩
      (intro w hSw; (try dsimp only at hSw); go_simp; try with_reducible rfl)
    try simp only [Act.put, List.setIfInBounds_toArray, List.set_cons_zero, List.set_cons_succ]
    refine HeldT.one (i := 22) (by simp only [List.getElem?_toArray, List.getElem?_cons_succ, List.getElem?_cons_zero]; rfl) (by kernel_rfl) (by kernel_rfl) (fun K hK => ?_)
    go_simp
    refine hK.out _ _ ?_ (fun hHeld => ?_)
    · (try dsimp only); first | done | (first | exact ⟨c2, hp1, ha1⟩ | exact ⟨c2', hp2, ha2⟩ | exact H3c.out)
    clear hK K
    try simp only [Act.put, List.setIfInBounds_toArray, List.set_cons_zero, List.set_cons_succ]
    refine HeldT.tail (by kernel_rfl) rfl ?_
    go_wp2_with fail
    refine HS.out.mono ?_
    rintro e w3 ⟨rfl, H4⟩
    go_wp2_with fail
    go_returns
    exact ⟨by rw [HD.out]; rfl, by rw [← HX.out, ← HY.out]; exact H4.out.1, H4.out.2⟩

theorem extract_none (s : ByteArray) (i : Nat) : s.extract i i = ⟨#[]⟩ := by
  apply ba_ext; rw [extract_list]; simp
theorem none_append (s : ByteArray) : (⟨#[]⟩ : ByteArray) ++ s = s := by
  apply ba_ext; rw [ByteArray.data_append, Array.toList_append]; rfl
theorem append_none (s : ByteArray) : s ++ (⟨#[]⟩ : ByteArray) = s := by
  apply ba_ext; rw [ByteArray.data_append, Array.toList_append]; exact List.append_nil _

theorem delete_before (bb lb : Nat) (s : ByteArray) (k n : Nat) (w : World) (h : Buf w bb lb s k) (hs : Wide s) (hk : k ≤ s.size) (hn : n ≤ 2000) :
    Calls Tryd.prog 36 #[.pointer (some ⟨bb, 0, none⟩), .int .i64 (n : Nat)] w fun e w' => e = .returned (.string (s.extract (k - n) k)) ∧ Buf w' bb lb (s.extract 0 (k - n) ++ s.extract k s.size) (k - n) ∧ Own bb lb w w' := by
  by_cases hk0 : 0 < k
  · exact delete_before_some bb lb s k n (k - n) w h hs hk hn hk0 rfl
  · obtain rfl : k = 0 := by omega
    rw [Nat.zero_sub, extract_none, extract_all, none_append]
    have H := Go.Lib.hid h
    clear h
    go_enter Tryd.func36, Tryd.ntmps36
    go_wp2_with fail
    refine (text_same bb lb s 0 w H.out).mono ?_
    rintro e w1 ⟨rfl, s1, s2, s3, s4⟩
    have H1 : Hid (Buf w1 bb lb s 0) := H.out.like s1 s2 s3
    have B1 : Hid (Own bb lb w w1) := Own.of (s4 _)
    clear s1 s2 s3 s4
    obtain ⟨B, cap, A, M, W, hcv, hb, hcap, hBs, hBl, hA, hM, hF⟩ := runes_parts w1 s 0 0 hs (Nat.le_refl _) (Nat.zero_le _)
    have H2 : Hid (Buf W bb lb s 0) := H1.out.below hb
    have B2 : Hid (Own bb lb w W) := B1.out.after hb
    have c2 : W.cell? ⟨bb, 2, none⟩ = some (.int .i64 0) := H2.out.c2
    clear hb hF hA hM
    go_wp2_with fail
    go_returns
    exact ⟨rfl, H2.out, B2.out⟩

theorem extract_within (s : ByteArray) (k n : Nat) (h : k + n ≤ s.size) : (s.extract k s.size).extract 0 n = s.extract k (k + n) := by
  apply ba_ext
  rw [extract_list, extract_list, extract_list]
  simp only [Nat.sub_zero, List.drop_zero, List.take_take]
  congr 1
  omega

set_option maxRecDepth 100000 in
set_option maxHeartbeats 4000000 in
theorem delete_some (bb lb : Nat) (s : ByteArray) (k n m : Nat) (w : World) (h : Buf w bb lb s k) (hs : Small s) (hk : k < s.size) (hm : m = k + n) (hms : m ≤ s.size) :
    Calls Tryd.prog 37 #[.pointer (some ⟨bb, 0, none⟩), .int .i64 (n : Nat)] w fun e w' => e = .returned (.string (s.extract k m)) ∧ Buf w' bb lb (s.extract 0 k ++ s.extract m s.size) k ∧ Own bb lb w w' := by
  have H := Go.Lib.hid h
  have hss := hs.2
  have HM := Go.Lib.hid hm
  have hkm : k ≤ m := by omega
  have hD := extract_within s k n (by omega)
  rw [← hm] at hD
  clear h
  have hw : IntKind.i64.wrap ((k : Int) + n) = (m : Int) := by rw [IntWalk.i64_in _ (by omega)]; omega
  have hw2 : (k : Int) + n = (m : Int) := by omega
  have hys := size_sub s k s.size (by omega)
  have hnY : n ≤ (s.extract k s.size).size := by omega
  have hov0 : (9223372036854775807 < (s.extract 0 k).size + (s.extract m s.size).size) = False := by
    have hx2 := size_sub s m s.size (by omega)
    have hx1 := size_sub s 0 k (by omega)
    simp; omega
  clear hm
  obtain ⟨X, hX⟩ : ∃ X, X = s.extract 0 k := ⟨_, rfl⟩
  obtain ⟨Y, hY⟩ : ∃ Y, Y = s.extract k s.size := ⟨_, rfl⟩
  obtain ⟨Z, hZ⟩ : ∃ Z, Z = s.extract m s.size := ⟨_, rfl⟩
  rw [← hX, ← hZ] at hov0
  rw [← hY] at hD hnY
  have HX := Go.Lib.hid hX
  have HY := Go.Lib.hid hY
  have HZ := Go.Lib.hid hZ
  have hmin : min n Y.size = n := Nat.min_eq_left hnY
  have HD := Go.Lib.hid hD
  rw [← hX, ← hZ]
  clear hX hY hZ hys hD
  go_enter Tryd.func37, Tryd.ntmps37
  go_wp2_with fail
  refine (text_same bb lb s k w H.out).mono ?_
  rintro e w1 ⟨rfl, s1, s2, s3, s4⟩
  have H1 : Hid (Buf w1 bb lb s k) := H.out.like s1 s2 s3
  have B1 : Hid (Own bb lb w w1) := Own.of (s4 _)
  clear s1 s2 s3 s4
  obtain ⟨B, cap, A, M, W, hcv, hb, hcap, hBs, hBl, hA, hM, hF⟩ := runes_parts w1 s k m hs.wide hkm hms
  have HF := Go.Lib.hid hF
  have H2 : Hid (Buf W bb lb s k) := H1.out.below hb
  have B2 : Hid (Own bb lb w W) := B1.out.after hb
  have HBs : Hid (B < W.heap.size ∧ B ≠ bb ∧ B ≠ lb) := ⟨hBs, by have := H1.out.sz; omega, by have := H1.out.sz; have := H1.out.lt; omega⟩
  clear hb hF hM hBs hBl
  have c2 := H2.out.c2
  have hks : (k : Int) < s.size := by omega
  go_wp2_with fail
  refine (buf_document bb lb s k W H2.out).mono ?_
  rintro e w3 ⟨d, rfl, hd, h3, b3⟩
  have H3 := Go.Lib.hid h3
  have HDc := Go.Lib.hid hd
  have HF3 : Hid (∀ w5 : World, Below w3.heap.size w3 w5 → (convert 25 9 (.slice (some ⟨B, 0, none⟩) k cap)).run Tryd.prog w5 = .ok (.string X) w5 ∧ (convert 25 9 (.slice A (s.size - m) (cap - m))).run Tryd.prog w5 = .ok (.string Z) w5) := fun w5 b5 => by
    have := HF.out w5 (fun j => (b5.cell (p := ⟨B, j, none⟩) (by have := b3.size; have := HBs.out.1; show B < _; omega)).trans (World.cell?_of_block (w := W) (b3.rest B HBs.out.1 HBs.out.2.1 HBs.out.2.2)))
    rw [← HX.out, ← HZ.out] at this
    exact ⟨this.1, this.2.2⟩
  have B3 : Hid (Own bb lb w w3) := B2.out.trans b3
  clear h3 hd b3 c2
  go_wp2_with fail
  have TA := after_any d s k w3 HDc.out hs (by omega)
  rw [← HY.out] at TA
  refine TA.mono ?_
  clear TA
  rintro e w4 ⟨rfl, b4⟩
  have H4 : Hid (Buf w4 bb lb s k) := H3.out.below b4
  have B4 : Hid (Own bb lb w w4) := B3.out.after b4
  have HF4 := fun n => (HF3.out (w4.drewN n) (below_drewN b4 _)).1
  have HF5 := fun n => (HF3.out (w4.drewN n) (below_drewN b4 _)).2
  have c2 := H4.out.c2
  have k1 : (k : Int) ≤ cap := by omega
  have k2 : k ≤ cap := by omega
  have k3 : (m : Int) ≤ cap := by omega
  have k4 : (m : Int) ≤ s.size := by omega
  clear b4
  go_wp2_with fail
  refine region_quiet_tail 19 (by kernel_rfl) (by kernel_rfl) ?_
  simp only [List.take_succ_cons, List.take_zero, List.drop_succ_cons, List.drop_zero]
  repeat (go_big_quiet_step (fail))
  refine wpQuiet_nil ?_
  intro _ hw'
  obtain ⟨nq, hw''⟩ := hw'
  subst hw''
  have H5 : Hid (Buf (w4.drewN nq) bb lb s k) := H4.out.like (fun _ => rfl) (fun _ => rfl) rfl
  go_wp2_with fail
  refine (set_text bb lb s _ k _ H5.out).mono ?_
  rintro e w6 ⟨rfl, h6, b6⟩
  have H6 := Go.Lib.hid h6
  clear h6
  go_wp2_with fail
  go_returns
  exact ⟨by rw [← HD.out]; rfl, H6.out, (B4.out.after (below_drewN (Below.refl _ _) _)).trans b6⟩

/-- At the end of the text nothing is taken out. -/
theorem delete_end (bb lb : Nat) (s : ByteArray) (n : Int) (w : World) (h : Buf w bb lb s s.size) (hs : Small s) :
    Calls Tryd.prog 37 #[.pointer (some ⟨bb, 0, none⟩), .int .i64 n] w fun e w' => e = .returned (.string ⟨#[]⟩) ∧ Buf w' bb lb s s.size ∧ Own bb lb w w' := by
  have H := Go.Lib.hid h
  clear h
  go_enter Tryd.func37, Tryd.ntmps37
  go_wp2_with fail
  refine (text_same bb lb s s.size w H.out).mono ?_
  rintro e w1 ⟨rfl, s1, s2, s3, s4⟩
  have H1 : Hid (Buf w1 bb lb s s.size) := H.out.like s1 s2 s3
  have B1 : Hid (Own bb lb w w1) := Own.of (s4 _)
  clear s1 s2 s3 s4
  obtain ⟨B, cap, A, M, W, hcv, hb, hcap, hBs, hBl, hA, hM, hF⟩ := runes_parts w1 s 0 0 hs.wide (Nat.le_refl _) (Nat.zero_le _)
  have H2 : Hid (Buf W bb lb s s.size) := H1.out.below hb
  have B2 : Hid (Own bb lb w W) := B1.out.after hb
  have c2 := H2.out.c2
  clear hb hF hA hM
  go_wp2_with fail
  go_returns
  exact ⟨rfl, H2.out, B2.out⟩
end Go.Proofs.YtedjjimabchffaaDoor
