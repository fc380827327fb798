/- spec.Padded. (Printed by gen/mkpadspec.py.) -/
import Derived.Test.YtbibokkclejapaaDoorIndPad
namespace Go.Proofs.YtbibokkclejapaaDoor
open Go.RowKit
set_option linter.unusedVariables false
set_option linter.unusedSimpArgs false

set_option maxRecDepth 100000 in
set_option maxHeartbeats 1000000 in
theorem specPad_any (l : List UInt8) (n : Nat) (w : World) (hn : n ≤ 1000) (hl : l.length ≤ 900000) (hr : (padL n l).length ≤ 1000000000) :
    Calls Tryd.prog 20 #[.string (tx l), .int .i64 (n : Nat)] w fun e w' => e = .returned (.string (tx (padL n l))) ∧ Below w.heap.size w w' := by
  have HR := Go.Lib.hid (rows_any l w hl)
  have HRL : Hid (∀ x ∈ rowsL l, x.length ≤ 900000) := fun x hx => Nat.le_trans (rows_mem l x hx) hl
  have hti := tog_pad n (rowsL l) (rows_ne l) fun x hx c hc => (rows_clean l x hx c hc).1
  rw [tog_rows] at hti
  have hrn := rows_length l
  rw [← hti] at hr ⊢
  obtain ⟨ls, hls⟩ : ∃ ls, ls = rowsL l := ⟨_, rfl⟩
  rw [← hls] at HR HRL hr hrn ⊢
  obtain ⟨n2, hn2⟩ : ∃ n2, n2 = ls.length := ⟨_, rfl⟩
  obtain ⟨s, hs⟩ : ∃ s, s = tx l := ⟨_, rfl⟩
  have HTG : Hid (∀ g cap B W, TRow W B g (mapR (fillL n) ls) → Calls Tryd.prog 29 #[.slice (some ⟨g, 0, none⟩) n2 cap] W fun e w' => e = .returned (.string (tx (togL (mapR (fillL n) ls)))) ∧ W = w') := fun g cap B W h => by
    rw [hn2, ← map_length (fillL n) ls]
    exact together_any g cap B _ W h hr (by rw [map_length]; omega) (fun x hx => Nat.le_trans (tog_mem _ x hx) hr) (fun k => Nat.le_trans (tog_take _ k) hr)
  have hn3 : n2 ≤ 900001 := by omega
  rw [← hs] at HR ⊢
  have HN := Go.Lib.hid hn2
  clear hl hr hti hrn hls hs
  rw [show RowsPost ls w = fun e w' => ∃ g cap, e = .returned (.slice (some ⟨g, 0, none⟩) n2 cap) ∧ TRow w' w.heap.size g ls ∧ Below w.heap.size w w' by rw [hn2]; rfl] at HR
  clear hn2
  go_enter Tryd.func20, Tryd.ntmps20
  go_wp2_with fail
  refine HR.out.mono ?_
  rintro e w1 ⟨g, cap, rfl, t1, b1⟩
  have T1 := Go.Lib.hid t1
  have B1 := Go.Lib.hid b1
  clear t1 b1
  go_wp2_with fail
  go_loopw [6] (fun i wr => ∃ k : Nat, k ≤ n2 ∧ i = .int .i64 (k : Nat) ∧ Hid (TRow wr w.heap.size g (part (fillL n) ls k)) ∧ Hid (Below w.heap.size w wr)) (fun i _ => n2 - (intOf i).toNat)
  case atStart => exact ⟨0, Nat.zero_le _, rfl, Go.Lib.hid (by rw [part_zero]; exact T1.out), B1⟩
  case round =>
    obtain ⟨k, hk, rfl, HW, HB⟩ := hrel
    by_cases hkn : k < n2
    · have hkl : k < ls.length := by rw [← HN.out]; exact hkn
      have hkp : k < (part (fillL n) ls k).length := by rw [part_length _ _ _ (by omega)]; exact hkl
      obtain ⟨y, hy⟩ : ∃ y, y = ls[k] := ⟨_, rfl⟩
      obtain ⟨Y, hY⟩ : ∃ Y, Y = tx y := ⟨_, rfl⟩
      have hck : wr.cell? ⟨g, k, none⟩ = some (.string Y) := by
        have := HW.out.c k hkp
        rw [part_get _ _ _ hkl hkp] at this
        rw [hY, hy]; exact this
      have hfz := HW.out.f k
      have hgz := HW.out.lt
      have hmg := map_get (fillL n) ls k hkl
      have hYs : Y.size ≤ 1000000000 := by
        rw [hY, tx_size, hy]
        exact Nat.le_trans (HRL.out _ (List.getElem_mem _)) (by omega)
      have hYb : Y.size = y.length := by rw [hY, tx_size]
      have hyl : y.length ≤ 900000 := by rw [hy]; exact HRL.out _ (List.getElem_mem _)
      obtain ⟨b, hb⟩ : ∃ b, b = y.length := ⟨_, rfl⟩
      obtain ⟨R, hR⟩ : ∃ R, R = tx (List.replicate (n - b) 32) := ⟨_, rfl⟩
      have hRs : R.size ≤ 1000000 := by rw [hR, tx_size, List.length_replicate]; omega
      have HT : Hid (∀ W, Calls Tryd.prog 30 #[.int .i64 ((n : Int) - (b : Int))] W fun e w' => e = .returned (.string R) ∧ Below W.heap.size W w') := fun W => by
        rw [hR]; exact blanks_spec (n - b) _ W (by omega) (by omega)
      have HRB : Hid (Y ++ R = tx (fillL n y)) := by
        refine Go.Lib.hid ?_
        rw [hY, hR, hb, fillL, tx_append]
      rw [← hb] at hYb hyl
      have c1 : (9223372036854775807 < Y.size + R.size) = False := by simp; omega
      have c2 : (9223372036854775807 < b + R.size) = False := by simp; omega
      have hwb : IntKind.i64.wrap ((n : Int) - (b : Int)) = (n : Int) - (b : Int) := IntWalk.i64_in _ (by omega)
      clear hb hR hRs
      rw [← hy, ← HN.out] at hmg
      have HY := Go.Lib.hid hY
      have HPS : Hid (∀ u, (mapR (fillL n) ls)[k]? = some u → (part (fillL n) ls k).set k u = part (fillL n) ls (k + 1)) := fun u hu => part_set _ ls k u hkl hu
      have HPE : Hid ((mapR (fillL n) ls)[k]? = some y → part (fillL n) ls k = part (fillL n) ls (k + 1)) := fun hu => part_same _ ls k hkl (by rw [hu, hy])
      have HKP := Go.Lib.hid hkp
      by_cases h1 : k + 1 < n2
      · rw [if_pos (.inl h1)] at hmg
        have HM := Go.Lib.hid hmg
        have q1 : (k : Int) + 1 < n2 := by omega
        clear hmg hY hy hkl hkp hYs h1
        go_wp2_with fail
        refine region_held_tail 14 (S := (fun w' => w'.cell? ⟨g, k, none⟩ = some (.string Y))) (by kernel_rfl) (by kernel_rfl) ?_ (fun hHeld => ?_)
        · (try dsimp only); first | done | (first | exact hck | exact d2)
        refine HeldT.take (i := 0) (v := ?_) (by simp only [List.getElem?_toArray, List.getElem?_cons_succ, List.getElem?_cons_zero]; rfl) (by kernel_rfl) (by kernel_rfl) (by kernel_rfl) (by kernel_rfl) (by exact fun _ _ _ h => h) ?_ (by assumption) ?_
        rotate_left
        · refine Or.inl ⟨by rfl, ?_⟩
          (intro w hSw; (try dsimp only at hSw); go_simp; try with_reducible rfl)
        try simp only [Act.put, List.setIfInBounds_toArray, List.set_cons_zero, List.set_cons_succ]
        refine HeldT.take (i := 1) (v := ?_) (by simp only [List.getElem?_toArray, List.getElem?_cons_succ, List.getElem?_cons_zero]; rfl) (by kernel_rfl) (by kernel_rfl) (by kernel_rfl) (by kernel_rfl) (by exact fun _ _ _ h => h) ?_ (by assumption) ?_
        rotate_left
        · refine Or.inl ⟨by rfl, ?_⟩
          (intro w hSw; (try dsimp only at hSw); go_simp; try with_reducible rfl)
        try simp only [Act.put, List.setIfInBounds_toArray, List.set_cons_zero, List.set_cons_succ]
        refine HeldT.take (i := 2) (v := ?_) (by simp only [List.getElem?_toArray, List.getElem?_cons_succ, List.getElem?_cons_zero]; rfl) (by kernel_rfl) (by kernel_rfl) (by kernel_rfl) (by kernel_rfl) (by exact fun _ _ _ h => h) ?_ (by assumption) ?_
        rotate_left
        · refine Or.inl ⟨by rfl, ?_⟩
          (intro w hSw; (try dsimp only at hSw); go_simp; try with_reducible rfl)
        try simp only [Act.put, List.setIfInBounds_toArray, List.set_cons_zero, List.set_cons_succ]
        refine HeldT.take (i := 3) (v := ?_) (by simp only [List.getElem?_toArray, List.getElem?_cons_succ, List.getElem?_cons_zero]; rfl) (by kernel_rfl) (by kernel_rfl) (by kernel_rfl) (by kernel_rfl) (by exact fun _ _ _ h => h) ?_ (by assumption) ?_
        rotate_left
        · refine Or.inl ⟨by rfl, ?_⟩
          (intro w hSw; (try dsimp only at hSw); go_simp; try with_reducible rfl)
        try simp only [Act.put, List.setIfInBounds_toArray, List.set_cons_zero, List.set_cons_succ]
        refine HeldT.take (i := 4) (v := ?_) (by simp only [List.getElem?_toArray, List.getElem?_cons_succ, List.getElem?_cons_zero]; rfl) (by kernel_rfl) (by kernel_rfl) (by kernel_rfl) (by kernel_rfl) (by exact fun _ _ _ h => h) ?_ (by assumption) ?_
        rotate_left
        · refine Or.inl ⟨by rfl, ?_⟩
          (intro w hSw; (try dsimp only at hSw); go_simp; try with_reducible rfl)
        try simp only [Act.put, List.setIfInBounds_toArray, List.set_cons_zero, List.set_cons_succ]
        refine HeldT.take (i := 5) (v := ?_) (by simp only [List.getElem?_toArray, List.getElem?_cons_succ, List.getElem?_cons_zero]; rfl) (by kernel_rfl) (by kernel_rfl) (by kernel_rfl) (by kernel_rfl) (by exact fun _ _ _ h => h) ?_ (by assumption) ?_
        rotate_left
        · refine Or.inl ⟨by rfl, ?_⟩
          (intro w hSw; (try dsimp only at hSw); go_simp; try with_reducible rfl)
        try simp only [Act.put, List.setIfInBounds_toArray, List.set_cons_zero, List.set_cons_succ]
        refine HeldT.take (i := 6) (v := ?_) (by simp only [List.getElem?_toArray, List.getElem?_cons_succ, List.getElem?_cons_zero]; rfl) (by kernel_rfl) (by kernel_rfl) (by kernel_rfl) (by kernel_rfl) (by exact fun _ _ _ h => h) ?_ (by assumption) ?_
        rotate_left
        · refine Or.inl ⟨by rfl, ?_⟩
          (intro w hSw; (try dsimp only at hSw); go_simp; try with_reducible rfl)
        try simp only [Act.put, List.setIfInBounds_toArray, List.set_cons_zero, List.set_cons_succ]
        refine HeldT.take (i := 7) (v := ?_) (by simp only [List.getElem?_toArray, List.getElem?_cons_succ, List.getElem?_cons_zero]; rfl) (by kernel_rfl) (by kernel_rfl) (by kernel_rfl) (by kernel_rfl) (by exact fun _ _ _ h => h) ?_ (by assumption) ?_
        rotate_left
        · refine Or.inl ⟨by rfl, ?_⟩
          (intro w hSw; (try dsimp only at hSw); go_simp; try with_reducible rfl)
        try simp only [Act.put, List.setIfInBounds_toArray, List.set_cons_zero, List.set_cons_succ]
        refine HeldT.take (i := 8) (v := ?_) (by simp only [List.getElem?_toArray, List.getElem?_cons_succ, List.getElem?_cons_zero]; rfl) (by kernel_rfl) (by kernel_rfl) (by kernel_rfl) (by kernel_rfl) (by exact fun _ _ _ h => h) ?_ (by assumption) ?_
        rotate_left
        · refine Or.inl ⟨by rfl, ?_⟩
          (intro w hSw; (try dsimp only at hSw); go_simp; try with_reducible rfl)
        try simp only [Act.put, List.setIfInBounds_toArray, List.set_cons_zero, List.set_cons_succ]
        refine HeldT.take (i := 9) (v := ?_) (by simp only [List.getElem?_toArray, List.getElem?_cons_succ, List.getElem?_cons_zero]; rfl) (by kernel_rfl) (by kernel_rfl) (by kernel_rfl) (by kernel_rfl) (by exact fun _ _ _ h => h) ?_ (by assumption) ?_
        rotate_left
        · refine Or.inl ⟨by rfl, ?_⟩
          (intro w hSw; (try dsimp only at hSw); go_simp; try with_reducible rfl)
        try simp only [Act.put, List.setIfInBounds_toArray, List.set_cons_zero, List.set_cons_succ]
        refine HeldT.take (i := 10) (v := ?_) (by simp only [List.getElem?_toArray, List.getElem?_cons_succ, List.getElem?_cons_zero]; rfl) (by kernel_rfl) (by kernel_rfl) (by kernel_rfl) (by kernel_rfl) (by exact fun _ _ _ h => h) ?_ (by assumption) ?_
        rotate_left
        · refine Or.inl ⟨by rfl, ?_⟩
          (intro w hSw; (try dsimp only at hSw); go_simp; try with_reducible rfl)
        try simp only [Act.put, List.setIfInBounds_toArray, List.set_cons_zero, List.set_cons_succ]
        refine HeldT.one (i := 11) (by simp only [List.getElem?_toArray, List.getElem?_cons_succ, List.getElem?_cons_zero]; rfl) (by kernel_rfl) (by kernel_rfl) (fun K hK => ?_)
        go_simp
        ((refine (HT.out _).mono ?_); rintro e w2 ⟨rfl, b2⟩; have hbw : Below wr.heap.size wr w2 := ((Below.refl wr.heap.size wr).drew).trans b2; have d2 : w2.cell? ⟨g, k, none⟩ = some (.string Y) := (hbw.cell (p := ⟨g, k, none⟩) hgz).trans hck; have d3 : w2.frozen? ⟨g, k, none⟩ = false := (hbw.frozen (p := ⟨g, k, none⟩) hgz).trans hfz; have HBW := Go.Lib.hid hbw; clear hbw b2)
        try go_wp2_with fail
        refine hK.out _ _ ?_ (fun hHeld => ?_)
        · (try dsimp only); first | done | (first | exact hck | exact d2)
        clear hK K
        try simp only [Act.put, List.setIfInBounds_toArray, List.set_cons_zero, List.set_cons_succ]
        refine HeldT.take (i := 12) (v := ?_) (by simp only [List.getElem?_toArray, List.getElem?_cons_succ, List.getElem?_cons_zero]; rfl) (by kernel_rfl) (by kernel_rfl) (by kernel_rfl) (by kernel_rfl) (by exact fun _ _ _ h => h) ?_ (by assumption) ?_
        rotate_left
        · refine Or.inl ⟨by rfl, ?_⟩
          (intro w hSw; (try dsimp only at hSw); go_simp; try with_reducible rfl)
        try simp only [Act.put, List.setIfInBounds_toArray, List.set_cons_zero, List.set_cons_succ]
        refine HeldT.take (i := 13) (v := ?_) (by simp only [List.getElem?_toArray, List.getElem?_cons_succ, List.getElem?_cons_zero]; rfl) (by kernel_rfl) (by kernel_rfl) (by kernel_rfl) (by kernel_rfl) (by exact fun _ _ _ h => h) ?_ (by assumption) ?_
        rotate_left
        · refine Or.inl ⟨by rfl, ?_⟩
          (intro w hSw; (try dsimp only at hSw); go_simp; try with_reducible rfl)
        try simp only [Act.put, List.setIfInBounds_toArray, List.set_cons_zero, List.set_cons_succ]
        refine HeldT.tail (by kernel_rfl) rfl ?_
        go_wp2_with fail
        go_roundw
        case rel =>
          refine ⟨k + 1, by omega, by go_num, Go.Lib.hid ?_, Go.Lib.hid ((HB.out.trans (HBW.out.mono HB.out.size)).setCell HW.out.hB _)⟩
          rw [HRB.out, ← HPS.out _ HM.out]
          exact (HW.out.below HBW.out).set k HKP.out _
        case measure => simp [intOf]; omega
      · by_cases h2 : y = []
        · rw [if_neg (by simp [h1, h2])] at hmg
          have HM := Go.Lib.hid hmg
          have q1 : ¬ ((k : Int) + 1 < n2) := by omega
          have q2 : Y = ⟨#[]⟩ := by rw [hY, h2]; rfl
          clear hmg hY hy hkl hkp hYs h1 h2
          have hbz : b = 0 := by rw [q2] at hYb; exact hYb.symm
          subst q2
          subst hbz
          go_wp2_with fail
          go_roundw
          case rel => exact ⟨k + 1, by omega, by go_num, Go.Lib.hid (by rw [← HPE.out HM.out]; exact HW.out), HB⟩
          case measure => simp [intOf]; omega
        · rw [if_pos (.inr h2)] at hmg
          have HM := Go.Lib.hid hmg
          have q1 : ¬ ((k : Int) + 1 < n2) := by omega
          have q2 : Y.toList.isEmpty = false := by
            rw [hY, ByteArray.toList_eq]
            simpa [tx] using h2
          clear hmg hY hy hkl hkp hYs h1 h2
          go_wp2_with fail
          refine region_held_tail 14 (S := (fun w' => w'.cell? ⟨g, k, none⟩ = some (.string Y))) (by kernel_rfl) (by kernel_rfl) ?_ (fun hHeld => ?_)
          · (try dsimp only); first | done | (first | exact hck | exact d2)
          refine HeldT.take (i := 0) (v := ?_) (by simp only [List.getElem?_toArray, List.getElem?_cons_succ, List.getElem?_cons_zero]; rfl) (by kernel_rfl) (by kernel_rfl) (by kernel_rfl) (by kernel_rfl) (by exact fun _ _ _ h => h) ?_ (by assumption) ?_
          rotate_left
          · refine Or.inl ⟨by rfl, ?_⟩
            (intro w hSw; (try dsimp only at hSw); go_simp; try with_reducible rfl)
          try simp only [Act.put, List.setIfInBounds_toArray, List.set_cons_zero, List.set_cons_succ]
          refine HeldT.take (i := 1) (v := ?_) (by simp only [List.getElem?_toArray, List.getElem?_cons_succ, List.getElem?_cons_zero]; rfl) (by kernel_rfl) (by kernel_rfl) (by kernel_rfl) (by kernel_rfl) (by exact fun _ _ _ h => h) ?_ (by assumption) ?_
          rotate_left
          · refine Or.inl ⟨by rfl, ?_⟩
            (intro w hSw; (try dsimp only at hSw); go_simp; try with_reducible rfl)
          try simp only [Act.put, List.setIfInBounds_toArray, List.set_cons_zero, List.set_cons_succ]
          refine HeldT.take (i := 2) (v := ?_) (by simp only [List.getElem?_toArray, List.getElem?_cons_succ, List.getElem?_cons_zero]; rfl) (by kernel_rfl) (by kernel_rfl) (by kernel_rfl) (by kernel_rfl) (by exact fun _ _ _ h => h) ?_ (by assumption) ?_
          rotate_left
          · refine Or.inl ⟨by rfl, ?_⟩
            (intro w hSw; (try dsimp only at hSw); go_simp; try with_reducible rfl)
          try simp only [Act.put, List.setIfInBounds_toArray, List.set_cons_zero, List.set_cons_succ]
          refine HeldT.take (i := 3) (v := ?_) (by simp only [List.getElem?_toArray, List.getElem?_cons_succ, List.getElem?_cons_zero]; rfl) (by kernel_rfl) (by kernel_rfl) (by kernel_rfl) (by kernel_rfl) (by exact fun _ _ _ h => h) ?_ (by assumption) ?_
          rotate_left
          · refine Or.inl ⟨by rfl, ?_⟩
            (intro w hSw; (try dsimp only at hSw); go_simp; try with_reducible rfl)
          try simp only [Act.put, List.setIfInBounds_toArray, List.set_cons_zero, List.set_cons_succ]
          refine HeldT.take (i := 4) (v := ?_) (by simp only [List.getElem?_toArray, List.getElem?_cons_succ, List.getElem?_cons_zero]; rfl) (by kernel_rfl) (by kernel_rfl) (by kernel_rfl) (by kernel_rfl) (by exact fun _ _ _ h => h) ?_ (by assumption) ?_
          rotate_left
          · refine Or.inl ⟨by rfl, ?_⟩
            (intro w hSw; (try dsimp only at hSw); go_simp; try with_reducible rfl)
          try simp only [Act.put, List.setIfInBounds_toArray, List.set_cons_zero, List.set_cons_succ]
          refine HeldT.take (i := 5) (v := ?_) (by simp only [List.getElem?_toArray, List.getElem?_cons_succ, List.getElem?_cons_zero]; rfl) (by kernel_rfl) (by kernel_rfl) (by kernel_rfl) (by kernel_rfl) (by exact fun _ _ _ h => h) ?_ (by assumption) ?_
          rotate_left
          · refine Or.inl ⟨by rfl, ?_⟩
            (intro w hSw; (try dsimp only at hSw); go_simp; try with_reducible rfl)
          try simp only [Act.put, List.setIfInBounds_toArray, List.set_cons_zero, List.set_cons_succ]
          refine HeldT.take (i := 6) (v := ?_) (by simp only [List.getElem?_toArray, List.getElem?_cons_succ, List.getElem?_cons_zero]; rfl) (by kernel_rfl) (by kernel_rfl) (by kernel_rfl) (by kernel_rfl) (by exact fun _ _ _ h => h) ?_ (by assumption) ?_
          rotate_left
          · refine Or.inl ⟨by rfl, ?_⟩
            (intro w hSw; (try dsimp only at hSw); go_simp; try with_reducible rfl)
          try simp only [Act.put, List.setIfInBounds_toArray, List.set_cons_zero, List.set_cons_succ]
          refine HeldT.take (i := 7) (v := ?_) (by simp only [List.getElem?_toArray, List.getElem?_cons_succ, List.getElem?_cons_zero]; rfl) (by kernel_rfl) (by kernel_rfl) (by kernel_rfl) (by kernel_rfl) (by exact fun _ _ _ h => h) ?_ (by assumption) ?_
          rotate_left
          · refine Or.inl ⟨by rfl, ?_⟩
            (intro w hSw; (try dsimp only at hSw); go_simp; try with_reducible rfl)
          try simp only [Act.put, List.setIfInBounds_toArray, List.set_cons_zero, List.set_cons_succ]
          refine HeldT.take (i := 8) (v := ?_) (by simp only [List.getElem?_toArray, List.getElem?_cons_succ, List.getElem?_cons_zero]; rfl) (by kernel_rfl) (by kernel_rfl) (by kernel_rfl) (by kernel_rfl) (by exact fun _ _ _ h => h) ?_ (by assumption) ?_
          rotate_left
          · refine Or.inl ⟨by rfl, ?_⟩
            (intro w hSw; (try dsimp only at hSw); go_simp; try with_reducible rfl)
          try simp only [Act.put, List.setIfInBounds_toArray, List.set_cons_zero, List.set_cons_succ]
          refine HeldT.take (i := 9) (v := ?_) (by simp only [List.getElem?_toArray, List.getElem?_cons_succ, List.getElem?_cons_zero]; rfl) (by kernel_rfl) (by kernel_rfl) (by kernel_rfl) (by kernel_rfl) (by exact fun _ _ _ h => h) ?_ (by assumption) ?_
          rotate_left
          · refine Or.inl ⟨by rfl, ?_⟩
            (intro w hSw; (try dsimp only at hSw); go_simp; try with_reducible rfl)
          try simp only [Act.put, List.setIfInBounds_toArray, List.set_cons_zero, List.set_cons_succ]
          refine HeldT.take (i := 10) (v := ?_) (by simp only [List.getElem?_toArray, List.getElem?_cons_succ, List.getElem?_cons_zero]; rfl) (by kernel_rfl) (by kernel_rfl) (by kernel_rfl) (by kernel_rfl) (by exact fun _ _ _ h => h) ?_ (by assumption) ?_
          rotate_left
          · refine Or.inl ⟨by rfl, ?_⟩
            (intro w hSw; (try dsimp only at hSw); go_simp; try with_reducible rfl)
          try simp only [Act.put, List.setIfInBounds_toArray, List.set_cons_zero, List.set_cons_succ]
          refine HeldT.one (i := 11) (by simp only [List.getElem?_toArray, List.getElem?_cons_succ, List.getElem?_cons_zero]; rfl) (by kernel_rfl) (by kernel_rfl) (fun K hK => ?_)
          go_simp
          ((refine (HT.out _).mono ?_); rintro e w2 ⟨rfl, b2⟩; have hbw : Below wr.heap.size wr w2 := ((Below.refl wr.heap.size wr).drew).trans b2; have d2 : w2.cell? ⟨g, k, none⟩ = some (.string Y) := (hbw.cell (p := ⟨g, k, none⟩) hgz).trans hck; have d3 : w2.frozen? ⟨g, k, none⟩ = false := (hbw.frozen (p := ⟨g, k, none⟩) hgz).trans hfz; have HBW := Go.Lib.hid hbw; clear hbw b2)
          try go_wp2_with fail
          refine hK.out _ _ ?_ (fun hHeld => ?_)
          · (try dsimp only); first | done | (first | exact hck | exact d2)
          clear hK K
          try simp only [Act.put, List.setIfInBounds_toArray, List.set_cons_zero, List.set_cons_succ]
          refine HeldT.take (i := 12) (v := ?_) (by simp only [List.getElem?_toArray, List.getElem?_cons_succ, List.getElem?_cons_zero]; rfl) (by kernel_rfl) (by kernel_rfl) (by kernel_rfl) (by kernel_rfl) (by exact fun _ _ _ h => h) ?_ (by assumption) ?_
          rotate_left
          · refine Or.inl ⟨by rfl, ?_⟩
            (intro w hSw; (try dsimp only at hSw); go_simp; try with_reducible rfl)
          try simp only [Act.put, List.setIfInBounds_toArray, List.set_cons_zero, List.set_cons_succ]
          refine HeldT.take (i := 13) (v := ?_) (by simp only [List.getElem?_toArray, List.getElem?_cons_succ, List.getElem?_cons_zero]; rfl) (by kernel_rfl) (by kernel_rfl) (by kernel_rfl) (by kernel_rfl) (by exact fun _ _ _ h => h) ?_ (by assumption) ?_
          rotate_left
          · refine Or.inl ⟨by rfl, ?_⟩
            (intro w hSw; (try dsimp only at hSw); go_simp; try with_reducible rfl)
          try simp only [Act.put, List.setIfInBounds_toArray, List.set_cons_zero, List.set_cons_succ]
          refine HeldT.tail (by kernel_rfl) rfl ?_
          go_wp2_with fail
          go_roundw
          case rel =>
            refine ⟨k + 1, by omega, by go_num, Go.Lib.hid ?_, Go.Lib.hid ((HB.out.trans (HBW.out.mono HB.out.size)).setCell HW.out.hB _)⟩
            rw [HRB.out, ← HPS.out _ HM.out]
            exact (HW.out.below HBW.out).set k HKP.out _
          case measure => simp [intOf]; omega
    · have hE : k = n2 := by omega
      have HE : Hid (TRow wr w.heap.size g (mapR (fillL n) ls)) := by
        have := HW.out
        rw [part_all _ _ _ (by rw [hE, HN.out]; exact Nat.le_refl _)] at this
        exact Go.Lib.hid this
      have HTX := Go.Lib.hid (HTG.out g cap _ wr HE.out)
      clear hE
      go_wp2_with fail
      refine HTX.out.mono ?_
      rintro e w3 ⟨rfl, rfl⟩
      go_wp2_with fail
      go_returns
      exact ⟨rfl, HB.out⟩
end Go.Proofs.YtbibokkclejapaaDoor
