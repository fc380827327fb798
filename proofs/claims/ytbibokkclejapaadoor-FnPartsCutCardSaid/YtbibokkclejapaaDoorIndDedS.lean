/- spec.inset, spec.Blanks, spec.Indented, spec.Dedented. -/
import Derived.Test.YtbibokkclejapaaDoorIndDed
import Derived.Laws.MakeOwn
namespace Go.Proofs.YtbibokkclejapaaDoor
open Go.RowKit
set_option linter.unusedVariables false
set_option linter.unusedSimpArgs false

theorem ins_at : ∀ (x : List UInt8) (k : Nat), (∀ j, j < k → x[j]? = some 32) → x[k]? ≠ some 32 → insL x = k
  | [], 0, _, _ => rfl
  | [], k + 1, h, _ => by have := h 0 (by omega); simp at this
  | c :: t, 0, _, h => by
    have : c ≠ 32 := by simpa using h
    simp [insL, this]
  | c :: t, k + 1, h, h2 => by
    have h0 : c = 32 := by simpa using h 0 (by omega)
    rw [insL, if_pos h0, ins_at t k (fun j hj => by simpa using h (j + 1) (by omega)) (by simpa using h2)]
theorem inset_any (x : List UInt8) (w : World) (hl : x.length ≤ 900000) : Calls Tryd.prog 28 #[.string (tx x)] w fun e w' => e = .returned (.int .i64 (insL x : Nat)) ∧ w = w' := by
  obtain ⟨s, hs⟩ : ∃ s, s = tx x := ⟨_, rfl⟩
  obtain ⟨n, hn⟩ : ∃ n, n = x.length := ⟨_, rfl⟩
  have hsn : s.size = n := by rw [hs, tx_size, hn]
  have hn2 : n ≤ 900000 := by omega
  have HS := Go.Lib.hid hs
  have HN := Go.Lib.hid hn
  rw [← hs]
  clear hs hn hl
  go_enter Tryd.func28, Tryd.ntmps28
  go_wp2_with fail
  go_loop [3] (fun i => ∃ k : Nat, k ≤ n ∧ i = .int .i64 (k : Nat) ∧ Hid (∀ j, j < k → x[j]? = some 32)) (fun i => n - (intOf i).toNat)
  case atStart => exact ⟨0, Nat.zero_le _, rfl, Go.Lib.hid fun j hj => by omega⟩
  case round =>
    obtain ⟨k, hk, rfl, HF⟩ := hrel
    by_cases hlt : k < n
    · have hks : k < s.size := by omega
      have hkl : k < x.length := by rw [← HN.out]; exact hlt
      obtain ⟨c, hc⟩ : ∃ c, c = x[k] := ⟨_, rfl⟩
      obtain ⟨z, hz⟩ : ∃ z, z = c.toNat := ⟨_, rfl⟩
      have hzs : ∀ h, (s[k]'h).toNat = z := fun h => by
        have h1 := HS.out
        subst h1
        rw [hz, hc]; rfl
      have hxk : x[k]? = some c := by rw [List.getElem?_eq_getElem hkl, hc]
      by_cases e32 : z = 32
      · have q1 : ((z : Int) == 32) = true := by rw [e32]; rfl
        have hc32 : c = 32 := UInt8.toNat_inj.1 (hz.symm.trans e32)
        have HF2 : Hid (∀ j, j < k + 1 → x[j]? = some 32) := fun j hj => by
          by_cases e : j = k
          · rw [e, hxk, hc32]
          · exact HF.out j (by omega)
        clear hz hc e32 hxk hc32 hkl
        go_wp2_with fail
        go_round
        case rel => exact ⟨k + 1, by omega, by go_num, HF2⟩
        case measure => simp [intOf]; omega
      · have q1 : ((z : Int) == 32) = false := by simp; omega
        have HE : Hid (insL x = k) := ins_at x k HF.out (by rw [hxk]; intro e; exact e32 (by rw [hz, Option.some.inj e]; rfl))
        clear hz hc e32 hxk hkl
        go_wp2_with fail
        go_returns
        refine ⟨?_, rfl⟩
        rw [HE.out]; rfl
    · have HE : Hid (insL x = k) := ins_at x k HF.out (by rw [List.getElem?_eq_none (by rw [← HN.out]; omega)]; intro e; cases e)
      go_wp2_with fail
      go_returns
      refine ⟨?_, rfl⟩
      rw [HE.out]; rfl

set_option maxRecDepth 100000 in
set_option maxHeartbeats 1000000 in
theorem blanks_spec (n : Nat) (z : Int) (w : World) (hz : max 0 z = (n : Int)) (hn : n ≤ 1000000) : Calls Tryd.prog 30 #[.int .i64 z] w fun e w' => e = .returned (.string (tx (List.replicate n 32))) ∧ Below w.heap.size w w' := by
  obtain ⟨i0, hi, hz0, hz1, hz2⟩ := info_parts (show (Tryd.prog.info? 5).map (fun i => (i.zero, i.size, i.bytes)) = some (some (.int .u8 0), 1, 1) by kernel_rfl)
  obtain ⟨Z, hZ⟩ : ∃ Z, Z = madeCells (Value.int .u8 0).cells ((n : Int).toNat * i0.size) := ⟨_, rfl⟩
  have hZs : Z.size = n := by rw [hZ, size_madeCells, hz1]; simp
  have hmk : ∀ W : World, (Instr.makeSlice 51 (.int .i64 (n : Nat)) (.int .i64 (n : Nat))).run Tryd.prog W = .ok (.slice (some ⟨W.heap.size, 0, none⟩) n n) (W.alloc (.cells Z 5)) := fun W => by
    have := run_make (P := Tryd.prog) W 51 5 i0 (.int .u8 0) Tryd.underlying51 hi hz0 .i64 .i64 (n : Nat) (n : Nat) (by omega) (by omega) (by rw [hz2]; omega) (by omega)
    rw [hZ]
    exact this
  have HZS := Go.Lib.hid hZs
  clear hZ hi hz0 hz1 hz2 hZs
  go_enter Tryd.func30, Tryd.ntmps30
  go_wp2_with fail
  go_loopw [4] (fun i wr => ∃ (k : Nat) (cur : Array Value), k ≤ n ∧ i = .int .i64 (k : Nat) ∧ wr.heap[w.heap.size]? = some (.cells cur 5 (0, 0)) ∧ Hid (cur.size = n ∧ ∀ j, j < k → cur[j]? = some (.int .u8 32)) ∧ Hid (Below w.heap.size w wr)) (fun i _ => n - (intOf i).toNat)
  case atStart => exact ⟨0, Z, Nat.zero_le _, rfl, heap_alloc_new w _, Go.Lib.hid ⟨HZS.out, fun j hj => by omega⟩, Go.Lib.hid ((Below.refl _ _).alloc (Nat.le_refl _) _)⟩
  case round =>
    obtain ⟨k, cur, hk, rfl, hcur, HC, HB⟩ := hrel
    have hgz := (Array.getElem?_eq_some_iff.1 hcur).1
    by_cases hlt : k < n
    · have hkc : k < cur.size := by rw [HC.out.1]; exact hlt
      have hck : wr.cell? ⟨w.heap.size, k, none⟩ = some (cur[k]'hkc) := by
        rw [World.cell?, hcur]
        show cur[k]? = _
        exact Array.getElem?_eq_getElem _
      have hfz : wr.frozen? ⟨w.heap.size, k, none⟩ = false := by rw [World.frozen?, hcur]; simp
      obtain ⟨u, hu⟩ : ∃ u, u = cur[k]'hkc := ⟨_, rfl⟩
      rw [← hu] at hck
      have HCUR := Go.Lib.hid hcur
      clear hu hkc hcur
      go_wp2_with fail
      go_roundw
      case rel =>
        refine ⟨k + 1, cur.setIfInBounds k (.int .u8 32), by omega, by go_num, ?_, Go.Lib.hid ⟨by simp [HC.out.1], fun j hj => ?_⟩, Go.Lib.hid (HB.out.setCell (Nat.le_refl _) _)⟩
        · show (wr.heap.modify w.heap.size _)[w.heap.size]? = _
          rw [Array.getElem?_modify, if_pos rfl, HCUR.out]
          rfl
        · by_cases e : j = k
          · rw [e, Array.getElem?_setIfInBounds_self_of_lt (by rw [HC.out.1]; exact hlt)]
          · rw [Array.getElem?_setIfInBounds_ne (fun e2 => e e2.symm)]
            exact HC.out.2 j (by omega)
      case measure => simp [intOf]; omega
    · have hkn : k = n := by omega
      have ht := text_at wr w.heap.size (List.replicate n 32) n (fun j hj => by
        rw [World.cell?, hcur]
        show cur[j]? = _
        rw [List.length_replicate] at hj
        rw [HC.out.2 j (by omega), List.getElem_replicate]
        rfl) hgz
      have hcv := ht.2 wr (Below.refl _ _)
      rw [List.length_replicate] at hcv
      obtain ⟨r, hr⟩ : ∃ r, r = tx (List.replicate n 32) := ⟨_, rfl⟩
      rw [show (⟨(List.replicate n (32 : UInt8)).toArray⟩ : ByteArray) = r from hr.symm] at hcv
      have HRR := Go.Lib.hid hr
      clear hr ht hcur hkn
      go_wp2_with fail
      go_returns
      exact ⟨by rw [← HRR.out]; rfl, HB.out⟩

set_option maxRecDepth 100000 in
set_option maxHeartbeats 1000000 in
theorem specInd_any (l : List UInt8) (n : Nat) (w : World) (hn : n ≤ 1000) (hl : l.length ≤ 900000) (hr : (ind n false l).length ≤ 1000000000) :
    Calls Tryd.prog 12 #[.string (tx l), .int .i64 (n : Nat)] w fun e w' => e = .returned (.string (tx (ind n false l))) ∧ Below w.heap.size w w' := by
  have HR := Go.Lib.hid (rows_any l w hl)
  have HT := Go.Lib.hid fun W => blanks_spec n (n : Int) W (by omega) (by omega)
  rw [ind_eq] at hr ⊢
  obtain ⟨p, hp⟩ : ∃ p, p = List.replicate n (32 : UInt8) := ⟨_, rfl⟩
  have hpl : p.length ≤ 1000000000 := by
    rw [hp, List.length_replicate]
    omega
  have HRL : Hid (∀ x ∈ rowsL l, x.length ≤ 900000) := fun x hx => Nat.le_trans (rows_mem l x hx) hl
  have hti := (tog_ind p l).1
  have hrn := rows_length l
  rw [← hp] at HT hr ⊢
  rw [← hti] at hr ⊢
  obtain ⟨ls, hls⟩ : ∃ ls, ls = rowsL l := ⟨_, rfl⟩
  rw [← hls] at HR HRL hr hrn ⊢
  obtain ⟨n2, hn2⟩ : ∃ n2, n2 = ls.length := ⟨_, rfl⟩
  obtain ⟨s, hs⟩ : ∃ s, s = tx l := ⟨_, rfl⟩
  obtain ⟨P, hP⟩ : ∃ P, P = tx p := ⟨_, rfl⟩
  have hPs : P.size ≤ 1000000000 := by rw [hP, tx_size]; exact hpl
  have HTG : Hid (∀ g cap B W, TRow W B g (mapR (fun x => p ++ x) ls) → Calls Tryd.prog 29 #[.slice (some ⟨g, 0, none⟩) n2 cap] W fun e w' => e = .returned (.string (tx (togL (mapR (fun x => p ++ x) ls)))) ∧ W = w') := fun g cap B W h => by
    rw [hn2, ← map_length (fun x => p ++ x) ls]
    exact together_any g cap B _ W h hr (by rw [map_length]; omega) (fun x hx => Nat.le_trans (tog_mem _ x hx) hr) (fun k => Nat.le_trans (tog_take _ k) hr)
  have hn3 : n2 ≤ 900001 := by omega
  rw [← hs] at HR ⊢
  have HP := Go.Lib.hid hP
  have HN := Go.Lib.hid hn2
  rw [← hP] at HT
  clear hl hr hp hpl hti hrn hls hs hP
  rw [show RowsPost ls w = fun e w' => ∃ g cap, e = .returned (.slice (some ⟨g, 0, none⟩) n2 cap) ∧ TRow w' w.heap.size g ls ∧ Below w.heap.size w w' by rw [hn2]; rfl] at HR
  clear hn2
  go_enter Tryd.func12, Tryd.ntmps12
  go_wp2_with fail
  refine HR.out.mono ?_
  rintro e w1 ⟨g, cap, rfl, t1, b1⟩
  have T1 := Go.Lib.hid t1
  have B1 := Go.Lib.hid b1
  clear t1 b1
  go_wp2_with fail
  go_loopw [6] (fun i wr => ∃ k : Nat, k ≤ n2 ∧ i = .int .i64 (k : Nat) ∧ Hid (TRow wr w.heap.size g (part (fun x => p ++ x) ls k)) ∧ Hid (Below w.heap.size w wr)) (fun i _ => n2 - (intOf i).toNat)
  case atStart => exact ⟨0, Nat.zero_le _, rfl, Go.Lib.hid (by rw [part_zero]; exact T1.out), B1⟩
  case round =>
    obtain ⟨k, hk, rfl, HW, HB⟩ := hrel
    by_cases hkn : k < n2
    · have hkl : k < ls.length := by rw [← HN.out]; exact hkn
      have hkp : k < (part (fun x => p ++ x) ls k).length := by rw [part_length _ _ _ (by omega)]; exact hkl
      obtain ⟨y, hy⟩ : ∃ y, y = ls[k] := ⟨_, rfl⟩
      obtain ⟨Y, hY⟩ : ∃ Y, Y = tx y := ⟨_, rfl⟩
      have hck : wr.cell? ⟨g, k, none⟩ = some (.string Y) := by
        have := HW.out.c k hkp
        rw [part_get _ _ _ hkl hkp] at this
        rw [hY, hy]; exact this
      have hfz := HW.out.f k
      have hgz := HW.out.lt
      have hmg := map_get (fun x => p ++ x) ls k hkl
      have hYs : Y.size ≤ 1000000000 := by
        rw [hY, tx_size, hy]
        exact Nat.le_trans (HRL.out _ (List.getElem_mem _)) (by omega)
      have c1 : (9223372036854775807 < P.size + Y.size) = False := by simp; omega
      rw [← hy, ← HN.out] at hmg
      have HY := Go.Lib.hid hY
      have HPS : Hid (∀ u, (mapR (fun x => p ++ x) ls)[k]? = some u → (part (fun x => p ++ x) ls k).set k u = part (fun x => p ++ x) ls (k + 1)) := fun u hu => part_set _ ls k u hkl hu
      have HPE : Hid ((mapR (fun x => p ++ x) ls)[k]? = some y → part (fun x => p ++ x) ls k = part (fun x => p ++ x) ls (k + 1)) := fun hu => part_same _ ls k hkl (by rw [hu, hy])
      have HKP := Go.Lib.hid hkp
      by_cases h1 : k + 1 < n2
      · rw [if_pos (.inl h1)] at hmg
        have HM := Go.Lib.hid hmg
        have q1 : (k : Int) + 1 < n2 := by omega
        clear hmg hY hy hkl hkp hYs h1
        go_wp2_with fail
        refine region_held_tail 10 (S := (fun w' => w'.cell? ⟨g, k, none⟩ = some (.string Y))) (by kernel_rfl) (by kernel_rfl) ?_ (fun hHeld => ?_)
        · (try dsimp only); first | done | (first | exact hck | exact d2)
        refine HeldT.take (i := 0) (v := ?_) (by simp only [List.getElem?_toArray, List.getElem?_cons_succ, List.getElem?_cons_zero]; rfl) (by kernel_rfl) (by kernel_rfl) (by kernel_rfl) (by kernel_rfl) (by exact fun _ _ _ h => h) ?_ (by assumption) ?_
        rotate_left
        · refine Or.inl ⟨by rfl, ?_⟩
          (intro w hSw; (try dsimp only at hSw); go_simp; try with_reducible rfl)
        try simp only [Act.put, List.setIfInBounds_toArray, List.set_cons_zero, List.set_cons_succ]
        refine HeldT.take (i := 1) (v := ?_) (by simp only [List.getElem?_toArray, List.getElem?_cons_succ, List.getElem?_cons_zero]; rfl) (by kernel_rfl) (by kernel_rfl) (by kernel_rfl) (by kernel_rfl) (by exact fun _ _ _ h => h) ?_ (by assumption) ?_
        rotate_left
        · refine Or.inl ⟨by rfl, ?_⟩
          (intro w hSw; (try dsimp only at hSw); go_simp; try with_reducible rfl)
        try simp only [Act.put, List.setIfInBounds_toArray, List.set_cons_zero, List.set_cons_succ]
        refine HeldT.take (i := 2) (v := ?_) (by simp only [List.getElem?_toArray, List.getElem?_cons_succ, List.getElem?_cons_zero]; rfl) (by kernel_rfl) (by kernel_rfl) (by kernel_rfl) (by kernel_rfl) (by exact fun _ _ _ h => h) ?_ (by assumption) ?_
        rotate_left
        · refine Or.inl ⟨by rfl, ?_⟩
          (intro w hSw; (try dsimp only at hSw); go_simp; try with_reducible rfl)
        try simp only [Act.put, List.setIfInBounds_toArray, List.set_cons_zero, List.set_cons_succ]
        refine HeldT.take (i := 4) (v := ?_) (by simp only [List.getElem?_toArray, List.getElem?_cons_succ, List.getElem?_cons_zero]; rfl) (by kernel_rfl) (by kernel_rfl) (by kernel_rfl) (by kernel_rfl) (by exact fun _ _ _ h => h) ?_ (by assumption) ?_
        rotate_left
        · refine Or.inl ⟨by rfl, ?_⟩
          (intro w hSw; (try dsimp only at hSw); go_simp; try with_reducible rfl)
        try simp only [Act.put, List.setIfInBounds_toArray, List.set_cons_zero, List.set_cons_succ]
        refine HeldT.take (i := 5) (v := ?_) (by simp only [List.getElem?_toArray, List.getElem?_cons_succ, List.getElem?_cons_zero]; rfl) (by kernel_rfl) (by kernel_rfl) (by kernel_rfl) (by kernel_rfl) (by exact fun _ _ _ h => h) ?_ (by assumption) ?_
        rotate_left
        · refine Or.inl ⟨by rfl, ?_⟩
          (intro w hSw; (try dsimp only at hSw); go_simp; try with_reducible rfl)
        try simp only [Act.put, List.setIfInBounds_toArray, List.set_cons_zero, List.set_cons_succ]
        refine HeldT.take (i := 6) (v := ?_) (by simp only [List.getElem?_toArray, List.getElem?_cons_succ, List.getElem?_cons_zero]; rfl) (by kernel_rfl) (by kernel_rfl) (by kernel_rfl) (by kernel_rfl) (by exact fun _ _ _ h => h) ?_ (by assumption) ?_
        rotate_left
        · refine Or.inl ⟨by rfl, ?_⟩
          (intro w hSw; (try dsimp only at hSw); go_simp; try with_reducible rfl)
        try simp only [Act.put, List.setIfInBounds_toArray, List.set_cons_zero, List.set_cons_succ]
        refine HeldT.take (i := 7) (v := ?_) (by simp only [List.getElem?_toArray, List.getElem?_cons_succ, List.getElem?_cons_zero]; rfl) (by kernel_rfl) (by kernel_rfl) (by kernel_rfl) (by kernel_rfl) (by exact fun _ _ _ h => h) ?_ (by assumption) ?_
        rotate_left
        · refine Or.inl ⟨by rfl, ?_⟩
          (intro w hSw; (try dsimp only at hSw); go_simp; try with_reducible rfl)
        try simp only [Act.put, List.setIfInBounds_toArray, List.set_cons_zero, List.set_cons_succ]
        refine HeldT.one (i := 3) (by simp only [List.getElem?_toArray, List.getElem?_cons_succ, List.getElem?_cons_zero]; rfl) (by kernel_rfl) (by kernel_rfl) (fun K hK => ?_)
        go_simp
        ((refine (HT.out _).mono ?_); rintro e w2 ⟨rfl, b2⟩; have hbw : Below wr.heap.size wr w2 := ((Below.refl wr.heap.size wr).drew).trans b2; have d2 : w2.cell? ⟨g, k, none⟩ = some (.string Y) := (hbw.cell (p := ⟨g, k, none⟩) hgz).trans hck; have d3 : w2.frozen? ⟨g, k, none⟩ = false := (hbw.frozen (p := ⟨g, k, none⟩) hgz).trans hfz; have HBW := Go.Lib.hid hbw; clear hbw b2)
        try go_wp2_with fail
        refine hK.out _ _ ?_ (fun hHeld => ?_)
        · (try dsimp only); first | done | (first | exact hck | exact d2)
        clear hK K
        try simp only [Act.put, List.setIfInBounds_toArray, List.set_cons_zero, List.set_cons_succ]
        refine HeldT.take (i := 8) (v := ?_) (by simp only [List.getElem?_toArray, List.getElem?_cons_succ, List.getElem?_cons_zero]; rfl) (by kernel_rfl) (by kernel_rfl) (by kernel_rfl) (by kernel_rfl) (by exact fun _ _ _ h => h) ?_ (by assumption) ?_
        rotate_left
        · refine Or.inl ⟨by rfl, ?_⟩
          (intro w hSw; (try dsimp only at hSw); go_simp; try with_reducible rfl)
        try simp only [Act.put, List.setIfInBounds_toArray, List.set_cons_zero, List.set_cons_succ]
        refine HeldT.take (i := 9) (v := ?_) (by simp only [List.getElem?_toArray, List.getElem?_cons_succ, List.getElem?_cons_zero]; rfl) (by kernel_rfl) (by kernel_rfl) (by kernel_rfl) (by kernel_rfl) (by exact fun _ _ _ h => h) ?_ (by assumption) ?_
        rotate_left
        · refine Or.inl ⟨by rfl, ?_⟩
          (intro w hSw; (try dsimp only at hSw); go_simp; try with_reducible rfl)
        try simp only [Act.put, List.setIfInBounds_toArray, List.set_cons_zero, List.set_cons_succ]
        refine HeldT.tail (by kernel_rfl) rfl ?_
        go_wp2_with fail
        go_roundw
        case rel =>
          refine ⟨k + 1, by omega, by go_num, Go.Lib.hid ?_, Go.Lib.hid ((HB.out.trans (HBW.out.mono HB.out.size)).setCell HW.out.hB _)⟩
          rw [HP.out, HY.out, ← tx_append, ← HPS.out _ HM.out]
          exact (HW.out.below HBW.out).set k HKP.out _
        case measure => simp [intOf]; omega
      · by_cases h2 : y = []
        · rw [if_neg (by simp [h1, h2])] at hmg
          have HM := Go.Lib.hid hmg
          have q1 : ¬ ((k : Int) + 1 < n2) := by omega
          have q2 : Y = ⟨#[]⟩ := by rw [hY, h2]; rfl
          clear hmg hY hy hkl hkp hYs h1 h2
          subst q2
          go_wp2_with fail
          go_roundw
          case rel => exact ⟨k + 1, by omega, by go_num, Go.Lib.hid (by rw [← HPE.out HM.out]; exact HW.out), HB⟩
          case measure => simp [intOf]; omega
        · rw [if_pos (.inr h2)] at hmg
          have HM := Go.Lib.hid hmg
          have q1 : ¬ ((k : Int) + 1 < n2) := by omega
          have q2 : Y.toList.isEmpty = false := by
            rw [hY, ByteArray.toList_eq]
            simpa [tx] using h2
          clear hmg hY hy hkl hkp hYs h1 h2
          go_wp2_with fail
          refine region_held_tail 10 (S := (fun w' => w'.cell? ⟨g, k, none⟩ = some (.string Y))) (by kernel_rfl) (by kernel_rfl) ?_ (fun hHeld => ?_)
          · (try dsimp only); first | done | (first | exact hck | exact d2)
          refine HeldT.take (i := 0) (v := ?_) (by simp only [List.getElem?_toArray, List.getElem?_cons_succ, List.getElem?_cons_zero]; rfl) (by kernel_rfl) (by kernel_rfl) (by kernel_rfl) (by kernel_rfl) (by exact fun _ _ _ h => h) ?_ (by assumption) ?_
          rotate_left
          · refine Or.inl ⟨by rfl, ?_⟩
            (intro w hSw; (try dsimp only at hSw); go_simp; try with_reducible rfl)
          try simp only [Act.put, List.setIfInBounds_toArray, List.set_cons_zero, List.set_cons_succ]
          refine HeldT.take (i := 1) (v := ?_) (by simp only [List.getElem?_toArray, List.getElem?_cons_succ, List.getElem?_cons_zero]; rfl) (by kernel_rfl) (by kernel_rfl) (by kernel_rfl) (by kernel_rfl) (by exact fun _ _ _ h => h) ?_ (by assumption) ?_
          rotate_left
          · refine Or.inl ⟨by rfl, ?_⟩
            (intro w hSw; (try dsimp only at hSw); go_simp; try with_reducible rfl)
          try simp only [Act.put, List.setIfInBounds_toArray, List.set_cons_zero, List.set_cons_succ]
          refine HeldT.take (i := 2) (v := ?_) (by simp only [List.getElem?_toArray, List.getElem?_cons_succ, List.getElem?_cons_zero]; rfl) (by kernel_rfl) (by kernel_rfl) (by kernel_rfl) (by kernel_rfl) (by exact fun _ _ _ h => h) ?_ (by assumption) ?_
          rotate_left
          · refine Or.inl ⟨by rfl, ?_⟩
            (intro w hSw; (try dsimp only at hSw); go_simp; try with_reducible rfl)
          try simp only [Act.put, List.setIfInBounds_toArray, List.set_cons_zero, List.set_cons_succ]
          refine HeldT.take (i := 4) (v := ?_) (by simp only [List.getElem?_toArray, List.getElem?_cons_succ, List.getElem?_cons_zero]; rfl) (by kernel_rfl) (by kernel_rfl) (by kernel_rfl) (by kernel_rfl) (by exact fun _ _ _ h => h) ?_ (by assumption) ?_
          rotate_left
          · refine Or.inl ⟨by rfl, ?_⟩
            (intro w hSw; (try dsimp only at hSw); go_simp; try with_reducible rfl)
          try simp only [Act.put, List.setIfInBounds_toArray, List.set_cons_zero, List.set_cons_succ]
          refine HeldT.take (i := 5) (v := ?_) (by simp only [List.getElem?_toArray, List.getElem?_cons_succ, List.getElem?_cons_zero]; rfl) (by kernel_rfl) (by kernel_rfl) (by kernel_rfl) (by kernel_rfl) (by exact fun _ _ _ h => h) ?_ (by assumption) ?_
          rotate_left
          · refine Or.inl ⟨by rfl, ?_⟩
            (intro w hSw; (try dsimp only at hSw); go_simp; try with_reducible rfl)
          try simp only [Act.put, List.setIfInBounds_toArray, List.set_cons_zero, List.set_cons_succ]
          refine HeldT.take (i := 6) (v := ?_) (by simp only [List.getElem?_toArray, List.getElem?_cons_succ, List.getElem?_cons_zero]; rfl) (by kernel_rfl) (by kernel_rfl) (by kernel_rfl) (by kernel_rfl) (by exact fun _ _ _ h => h) ?_ (by assumption) ?_
          rotate_left
          · refine Or.inl ⟨by rfl, ?_⟩
            (intro w hSw; (try dsimp only at hSw); go_simp; try with_reducible rfl)
          try simp only [Act.put, List.setIfInBounds_toArray, List.set_cons_zero, List.set_cons_succ]
          refine HeldT.take (i := 7) (v := ?_) (by simp only [List.getElem?_toArray, List.getElem?_cons_succ, List.getElem?_cons_zero]; rfl) (by kernel_rfl) (by kernel_rfl) (by kernel_rfl) (by kernel_rfl) (by exact fun _ _ _ h => h) ?_ (by assumption) ?_
          rotate_left
          · refine Or.inl ⟨by rfl, ?_⟩
            (intro w hSw; (try dsimp only at hSw); go_simp; try with_reducible rfl)
          try simp only [Act.put, List.setIfInBounds_toArray, List.set_cons_zero, List.set_cons_succ]
          refine HeldT.one (i := 3) (by simp only [List.getElem?_toArray, List.getElem?_cons_succ, List.getElem?_cons_zero]; rfl) (by kernel_rfl) (by kernel_rfl) (fun K hK => ?_)
          go_simp
          ((refine (HT.out _).mono ?_); rintro e w2 ⟨rfl, b2⟩; have hbw : Below wr.heap.size wr w2 := ((Below.refl wr.heap.size wr).drew).trans b2; have d2 : w2.cell? ⟨g, k, none⟩ = some (.string Y) := (hbw.cell (p := ⟨g, k, none⟩) hgz).trans hck; have d3 : w2.frozen? ⟨g, k, none⟩ = false := (hbw.frozen (p := ⟨g, k, none⟩) hgz).trans hfz; have HBW := Go.Lib.hid hbw; clear hbw b2)
          try go_wp2_with fail
          refine hK.out _ _ ?_ (fun hHeld => ?_)
          · (try dsimp only); first | done | (first | exact hck | exact d2)
          clear hK K
          try simp only [Act.put, List.setIfInBounds_toArray, List.set_cons_zero, List.set_cons_succ]
          refine HeldT.take (i := 8) (v := ?_) (by simp only [List.getElem?_toArray, List.getElem?_cons_succ, List.getElem?_cons_zero]; rfl) (by kernel_rfl) (by kernel_rfl) (by kernel_rfl) (by kernel_rfl) (by exact fun _ _ _ h => h) ?_ (by assumption) ?_
          rotate_left
          · refine Or.inl ⟨by rfl, ?_⟩
            (intro w hSw; (try dsimp only at hSw); go_simp; try with_reducible rfl)
          try simp only [Act.put, List.setIfInBounds_toArray, List.set_cons_zero, List.set_cons_succ]
          refine HeldT.take (i := 9) (v := ?_) (by simp only [List.getElem?_toArray, List.getElem?_cons_succ, List.getElem?_cons_zero]; rfl) (by kernel_rfl) (by kernel_rfl) (by kernel_rfl) (by kernel_rfl) (by exact fun _ _ _ h => h) ?_ (by assumption) ?_
          rotate_left
          · refine Or.inl ⟨by rfl, ?_⟩
            (intro w hSw; (try dsimp only at hSw); go_simp; try with_reducible rfl)
          try simp only [Act.put, List.setIfInBounds_toArray, List.set_cons_zero, List.set_cons_succ]
          refine HeldT.tail (by kernel_rfl) rfl ?_
          go_wp2_with fail
          go_roundw
          case rel =>
            refine ⟨k + 1, by omega, by go_num, Go.Lib.hid ?_, Go.Lib.hid ((HB.out.trans (HBW.out.mono HB.out.size)).setCell HW.out.hB _)⟩
            rw [HP.out, HY.out, ← tx_append, ← HPS.out _ HM.out]
            exact (HW.out.below HBW.out).set k HKP.out _
          case measure => simp [intOf]; omega
    · have hE : k = n2 := by omega
      have HE : Hid (TRow wr w.heap.size g (mapR (fun x => p ++ x) ls)) := by
        have := HW.out
        rw [part_all _ _ _ (by rw [hE, HN.out]; exact Nat.le_refl _)] at this
        exact Go.Lib.hid this
      have HTX := Go.Lib.hid (HTG.out g cap _ wr HE.out)
      clear hE
      go_wp2_with fail
      refine HTX.out.mono ?_
      rintro e w3 ⟨rfl, rfl⟩
      go_wp2_with fail
      go_returns
      exact ⟨rfl, HB.out⟩
/-- The first k lines are others. -/
def upto (T r : List (List UInt8)) (k : Nat) : List (List UInt8) := T.take k ++ r.drop k
theorem upto_length (T r : List (List UInt8)) (k : Nat) (h : k ≤ r.length) (hT : T.length = r.length) : (upto T r k).length = r.length := by
  rw [upto, List.length_append, List.length_take, List.length_drop]; omega
theorem upto_get (T r : List (List UInt8)) (k : Nat) (h : k < r.length) (hT : T.length = r.length) (h' : k < (upto T r k).length) : (upto T r k)[k] = r[k] := by
  have e : (T.take k).length = k := by rw [List.length_take]; omega
  have h2 : (upto T r k)[k]? = some r[k] := by
    unfold upto
    rw [List.getElem?_append_right (by omega), e, Nat.sub_self, List.getElem?_drop]
    simp [h]
  rw [List.getElem?_eq_getElem h'] at h2
  exact Option.some.inj h2
theorem upto_set (T r : List (List UInt8)) (k : Nat) (y : List UInt8) (h : k < r.length) (hT : T.length = r.length) (hy : T[k]? = some y) : (upto T r k).set k y = upto T r (k + 1) := by
  have e : (T.take k).length = k := by rw [List.length_take]; omega
  unfold upto
  rw [List.take_add_one, hy, List.set_append_right _ _ (by omega), e, Nat.sub_self, List.drop_eq_getElem_cons h]
  rw [List.set_cons_zero, Option.toList_some, List.append_assoc]
  rfl
theorem tx_drop (l : List UInt8) (k : Nat) : (tx l).extract k (tx l).size = tx (l.drop k) := by
  rw [tx_size, tx_cut, List.take_of_length_le (by rw [List.length_drop]; exact Nat.le_refl _)]
/-- What spec.Dedented has found of the least so far, as it keeps it. -/
def lv (m : Nat) : Int := if m = 0 then -1 else m
def OkR (r : List (List UInt8)) : Prop := ∀ x ∈ r, insL x = x.length ∨ 0 < insL x
def SDPost (l : List UInt8) (w : World) (e : Ending) (w' : World) : Prop :=
  ∃ b r, e = .returned (.tuple #[.string r, .bool b]) ∧ (b = true → OkR (rowsL l) ∧ (rowsL l).foldl lst 0 ≠ 0 ∧ r = tx (togL ((rowsL l).map (cutL ((rowsL l).foldl lst 0))))) ∧ Below w.heap.size w w'
theorem lst_small (B : Nat) : ∀ (r : List (List UInt8)) (m : Nat), m ≤ B → (∀ x ∈ r, x.length ≤ B) → r.foldl lst m ≤ B
  | [], m, h, _ => h
  | x :: r, m, h, hr => by
    rw [List.foldl_cons]
    refine lst_small B r _ ?_ fun y hy => hr y (by simp [hy])
    have h1 := ins_le x
    have h2 := hr x (by simp)
    unfold lst
    split
    · exact h
    · split <;> omega
theorem tog_cut (n : Nat) : ∀ r : List (List UInt8), (togL (r.map (cutL n))).length ≤ (togL r).length
  | [] => Nat.le_refl _
  | [x] => by simp [togL, cutL]
  | x :: y :: r => by
    have := tog_cut n (y :: r)
    rw [List.map_cons, tog_cons _ _ (by simp), tog_cons x (y :: r) (by simp)]
    have h2 : (cutL n x).length ≤ x.length := by simp [cutL]
    simp only [List.length_append, List.length_cons]
    omega

set_option maxRecDepth 100000 in
set_option maxHeartbeats 2000000 in
theorem specDed_any (l : List UInt8) (w : World) (hl : l.length ≤ 900000) : Calls Tryd.prog 11 #[.string (tx l)] w (SDPost l w) := by
  have HR := Go.Lib.hid (rows_any l w hl)
  have HRL : Hid (∀ x ∈ rowsL l, x.length ≤ 900000) := fun x hx => Nat.le_trans (rows_mem l x hx) hl
  have hrn := rows_length l
  have htl := tog_rows l
  obtain ⟨ls, hls⟩ : ∃ ls, ls = rowsL l := ⟨_, rfl⟩
  have hpost : SDPost l w = fun e w' => ∃ b r, e = .returned (.tuple #[.string r, .bool b]) ∧ (b = true → OkR ls ∧ ls.foldl lst 0 ≠ 0 ∧ r = tx (togL (ls.map (cutL (ls.foldl lst 0))))) ∧ Below w.heap.size w w' := by rw [hls]; rfl
  rw [hpost]
  rw [← hls] at HR HRL hrn htl
  obtain ⟨n2, hn2⟩ : ∃ n2, n2 = ls.length := ⟨_, rfl⟩
  obtain ⟨s, hs⟩ : ∃ s, s = tx l := ⟨_, rfl⟩
  rw [← hs] at HR ⊢
  have HTG : Hid (∀ (f : List UInt8 → List UInt8), (togL (ls.map f)).length ≤ l.length → ∀ g cap B W, TRow W B g (ls.map f) → Calls Tryd.prog 29 #[.slice (some ⟨g, 0, none⟩) n2 cap] W fun e w' => e = .returned (.string (tx (togL (ls.map f)))) ∧ W = w') := fun f hf g cap B W h => by
    rw [hn2, ← List.length_map f]
    exact together_any g cap B _ W h (by omega) (by rw [List.length_map]; omega) (fun x hx => Nat.le_trans (tog_mem _ x hx) (by omega)) (fun k => Nat.le_trans (tog_take _ k) (by omega))
  have HLM : Hid (ls.foldl lst 0 ≤ 900000) := lst_small 900000 ls 0 (by omega) HRL.out
  have HTC : Hid (∀ n, (togL (ls.map (cutL n))).length ≤ l.length) := fun n => by
    have := tog_cut n ls
    rw [htl] at this
    exact this
  have HTL := Go.Lib.hid htl
  have hn3 : n2 ≤ 900001 := by omega
  have HN := Go.Lib.hid hn2
  rw [show RowsPost ls w = fun e w' => ∃ g cap, e = .returned (.slice (some ⟨g, 0, none⟩) n2 cap) ∧ TRow w' w.heap.size g ls ∧ Below w.heap.size w w' by rw [hn2]; rfl] at HR
  clear hl hrn hls hs hn2 hpost htl
  go_enter Tryd.func11, Tryd.ntmps11
  go_wp2_with fail
  refine HR.out.mono ?_
  rintro e w1 ⟨g, cap, rfl, t1, b1⟩
  have T1 := Go.Lib.hid t1
  have B1 := Go.Lib.hid b1
  have hg1 := t1.lt
  clear t1 b1
  go_wp2_with fail
  go_loop [5, 6, 7] (fun le i x7 => ∃ (k m : Nat), k ≤ n2 ∧ i = .int .i64 (k : Nat) ∧ le = .int .i64 (lv m) ∧ Hid (OkR (ls.take k)) ∧ Hid (m = (ls.take k).foldl lst 0)) (fun _ i _ => n2 - (intOf i).toNat)
  case atStart => exact ⟨0, 0, Nat.zero_le _, rfl, rfl, Go.Lib.hid (fun x hx => by simp at hx), Go.Lib.hid rfl⟩
  case round =>
    obtain ⟨k, m, hk, rfl, rfl, HK, HM⟩ := hrel
    by_cases hkn : k < n2
    · have hkl : k < ls.length := by rw [← HN.out]; exact hkn
      obtain ⟨y, hy⟩ : ∃ y, y = ls[k] := ⟨_, rfl⟩
      obtain ⟨Y, hY⟩ : ∃ Y, Y = tx y := ⟨_, rfl⟩
      have hck : w1.cell? ⟨g, k, none⟩ = some (.string Y) := by rw [hY, hy]; exact T1.out.c k hkl
      have hyl : y.length ≤ 900000 := by rw [hy]; exact HRL.out _ (List.getElem_mem _)
      have hin := inset_any y w1 hyl
      rw [← hY] at hin
      have HIN := Go.Lib.hid hin
      have hYs : Y.size = y.length := by rw [hY, tx_size]
      have htk : ls.take (k + 1) = ls.take k ++ [y] := by rw [List.take_add_one, List.getElem?_eq_getElem hkl, hy]; rfl
      have hfd : (ls.take (k + 1)).foldl lst 0 = lst m y := by rw [htk, List.foldl_append, ← HM.out]; rfl
      have HOK : Hid ((insL y = y.length ∨ 0 < insL y) → OkR (ls.take (k + 1))) := fun h x hx => by
        rw [htk] at hx
        rcases List.mem_append.1 hx with hx | hx
        · exact HK.out x hx
        · rw [List.mem_singleton] at hx; rw [hx]; exact h
      have hile := ins_le y
      obtain ⟨a, ha⟩ : ∃ a, a = insL y := ⟨_, rfl⟩
      obtain ⟨b, hb⟩ : ∃ b, b = y.length := ⟨_, rfl⟩
      have hls : lst m y = if a = b then m else if 0 < a ∧ (m = 0 ∨ a < m) then a else m := by rw [ha, hb]; rfl
      rw [hls] at hfd
      rw [← ha] at HIN HOK hile
      rw [← hb] at HOK hile hyl hYs
      have hmb : m ≤ 900000 := by
        rw [HM.out]
        exact lst_small 900000 _ 0 (by omega) fun x hx => HRL.out x (List.mem_of_mem_take hx)
      clear hy hY hin htk hls ha hb hkl
      by_cases hab : a = b
      · rw [if_pos hab] at hfd
        have HFD := Go.Lib.hid hfd
        subst hab
        clear hfd
        go_wp2_with fail
        refine HIN.out.mono ?_
        rintro e w2 ⟨rfl, rfl⟩
        go_wp2_with fail
        go_round
        case rel => exact ⟨k + 1, m, by omega, by go_num, rfl, Go.Lib.hid (HOK.out (.inl (by simp))), Go.Lib.hid HFD.out.symm⟩
        case measure => simp [intOf]; omega
      rw [if_neg hab] at hfd
      have q1 : ((a : Int) == (b : Int)) = false := by simp; omega
      by_cases ha0 : a = 0
      · subst ha0
        clear hfd hab
        go_wp2_with fail
        refine HIN.out.mono ?_
        rintro e w2 ⟨rfl, rfl⟩
        go_wp2_with fail
        go_returns
        exact ⟨false, _, rfl, (fun h => by cases h), B1.out⟩
      have q2 : ((a : Int) == 0) = false := by simp; omega
      have HO1 : Hid (OkR (ls.take (k + 1))) := HOK.out (.inr (by omega))
      by_cases hm0 : m = 0
      · rw [if_pos ⟨by omega, .inl hm0⟩] at hfd
        have HFD := Go.Lib.hid hfd
        subst hm0
        have hlv : lv 0 = -1 := rfl
        have hla : lv a = a := by unfold lv; rw [if_neg ha0]
        have HLA := Go.Lib.hid hla
        rw [hlv]
        clear hfd hab hlv hla ha0
        go_wp2_with fail
        refine HIN.out.mono ?_
        rintro e w2 ⟨rfl, rfl⟩
        go_wp2_with fail
        go_round
        case rel => exact ⟨k + 1, a, by omega, by go_num, by rw [HLA.out], HO1, Go.Lib.hid HFD.out.symm⟩
        case measure => simp [intOf]; omega
      have hlv : lv m = m := by unfold lv; rw [if_neg hm0]
      have q3 : ¬ ((m : Int) < 0) := by omega
      by_cases ham : a < m
      · rw [if_pos ⟨by omega, .inr ham⟩] at hfd
        have HFD := Go.Lib.hid hfd
        have q4 : (a : Int) < m := by omega
        have hla : lv a = a := by unfold lv; rw [if_neg ha0]
        have HLA := Go.Lib.hid hla
        rw [hlv]
        clear hfd hab hlv hla ha0 hm0
        go_wp2_with fail
        refine HIN.out.mono ?_
        rintro e w2 ⟨rfl, rfl⟩
        go_wp2_with fail
        go_round
        case rel => exact ⟨k + 1, a, by omega, by go_num, by rw [HLA.out], HO1, Go.Lib.hid HFD.out.symm⟩
        case measure => simp [intOf]; omega
      · rw [if_neg (by omega)] at hfd
        have HFD := Go.Lib.hid hfd
        have q4 : ¬ (a : Int) < m := by omega
        have HLV := Go.Lib.hid hlv
        rw [hlv]
        clear hfd hab hlv ha0 hm0
        go_wp2_with fail
        refine HIN.out.mono ?_
        rintro e w2 ⟨rfl, rfl⟩
        go_wp2_with fail
        go_round
        case rel => exact ⟨k + 1, m, by omega, by go_num, by rw [HLV.out], HO1, Go.Lib.hid HFD.out.symm⟩
        case measure => simp [intOf]; omega
    · have hkn' : k = n2 := by omega
      have htk : ls.take k = ls := List.take_of_length_le (by rw [← HN.out]; omega)
      have hok := HK.out
      have hmm := HM.out
      rw [htk] at hok hmm
      have HOK := Go.Lib.hid hok
      have HMM := Go.Lib.hid hmm
      have hmb : m ≤ 900000 := by rw [hmm]; exact HLM.out
      clear hok hmm htk hkn'
      by_cases hm0 : m = 0
      · have hlv : lv m = -1 := by unfold lv; rw [if_pos hm0]
        rw [hlv]
        clear hlv
        have HTG2 : Hid (Calls Tryd.prog 29 #[.slice (some ⟨g, 0, none⟩) n2 cap] w1 fun e w' => e = .returned (.string (tx (togL (ls.map id)))) ∧ w1 = w') := HTG.out id (by rw [List.map_id, HTL.out]; exact Nat.le_refl _) g cap w.heap.size w1 (by rw [List.map_id]; exact T1.out)
        clear hm0
        go_wp2_with fail
        go_loopw [8] (fun i wr => i = .int .i64 0 ∧ wr = w1) (fun _ _ => 0)
        case atStart => exact ⟨rfl, rfl⟩
        case round =>
          obtain ⟨rfl, rfl⟩ := hrel
          by_cases h0 : 0 < n2
          · have q1 : (0 : Int) < n2 := by omega
            go_wp2_with fail
            refine HTG2.out.mono ?_
            rintro e w2 ⟨rfl, rfl⟩
            go_wp2_with fail
            go_returns
            exact ⟨false, _, rfl, (fun h => by cases h), B1.out⟩
          · have q1 : ¬ (0 : Int) < n2 := by omega
            go_wp2_with fail
            refine HTG2.out.mono ?_
            rintro e w2 ⟨rfl, rfl⟩
            go_wp2_with fail
            go_returns
            exact ⟨false, _, rfl, (fun h => by cases h), B1.out⟩
      have hlv : lv m = m := by unfold lv; rw [if_neg hm0]
      have q1 : (0 : Int) < m := by omega
      rw [hlv]
      clear hlv
      have HM0 := Go.Lib.hid hm0
      clear hm0
      go_wp2_with fail
      go_loopw [8] (fun i wr => ∃ j : Nat, j ≤ n2 ∧ i = .int .i64 (j : Nat) ∧ Hid (TRow wr w.heap.size g (upto (ls.map (cutL m)) ls j)) ∧ Hid (Below w.heap.size w wr)) (fun i _ => n2 - (intOf i).toNat)
      case atStart => exact ⟨0, Nat.zero_le _, rfl, Go.Lib.hid (by simpa [upto] using T1.out), B1⟩
      case round =>
        obtain ⟨j, hj, rfl, HW, HB⟩ := hrel
        by_cases hjn : j < n2
        · have hjl : j < ls.length := by rw [← HN.out]; exact hjn
          have hjp : j < (upto (ls.map (cutL m)) ls j).length := by rw [upto_length _ _ _ (by omega) (by simp)]; exact hjl
          obtain ⟨y, hy⟩ : ∃ y, y = ls[j] := ⟨_, rfl⟩
          obtain ⟨Y, hY⟩ : ∃ Y, Y = tx y := ⟨_, rfl⟩
          have hck : wr.cell? ⟨g, j, none⟩ = some (.string Y) := by
            have := HW.out.c j hjp
            rw [upto_get _ _ _ hjl (by simp) hjp] at this
            rw [hY, hy]; exact this
          have hfz := HW.out.f j
          have hgz := HW.out.lt
          have hyl : y.length ≤ 900000 := by rw [hy]; exact HRL.out _ (List.getElem_mem _)
          have HIN : Hid (∀ W, Calls Tryd.prog 28 #[.string Y] W fun e w' => e = .returned (.int .i64 (insL y : Nat)) ∧ W = w') := fun W => by rw [hY]; exact inset_any y W hyl
          have hYs : Y.size = y.length := by rw [hY, tx_size]
          have hile := ins_le y
          have HCU : Hid (Y.extract (min m (insL y)) Y.size = tx (cutL m y)) := by
            refine Go.Lib.hid ?_
            rw [hY]; exact tx_drop y _
          have HPS : Hid ((upto (ls.map (cutL m)) ls j).set j (cutL m y) = upto (ls.map (cutL m)) ls (j + 1)) := upto_set _ ls j _ hjl (by simp) (by rw [List.getElem?_map, List.getElem?_eq_getElem hjl, hy]; rfl)
          have HJP := Go.Lib.hid hjp
          obtain ⟨a, ha⟩ : ∃ a, a = insL y := ⟨_, rfl⟩
          obtain ⟨b, hb⟩ : ∃ b, b = y.length := ⟨_, rfl⟩
          rw [← ha] at HIN hile HCU
          rw [← hb] at hile hyl hYs
          obtain ⟨c, hc⟩ : ∃ c, c = min m a := ⟨_, rfl⟩
          have hmn : min (m : Int) (a : Int) = (c : Int) := by omega
          have hcb : c ≤ b := by omega
          rw [← hc] at HCU
          have hc0 : (0 : Int) ≤ c := by omega
          have hc1 : (c : Int) ≤ Y.size := by omega
          rw [hYs] at HCU
          clear hy hY ha hb hjl hjp hc hile
          go_wp2_with fail
          refine region_held_tail 15 (S := (fun w' => w'.cell? ⟨g, j, none⟩ = some (.string Y))) (by kernel_rfl) (by kernel_rfl) ?_ (fun hHeld => ?_)
          · (try dsimp only); first | done | (exact hck)
          refine HeldT.take (i := 0) (v := ?_) (by simp only [List.getElem?_toArray, List.getElem?_cons_succ, List.getElem?_cons_zero]; rfl) (by kernel_rfl) (by kernel_rfl) (by kernel_rfl) (by kernel_rfl) (by exact fun _ _ _ h => h) ?_ (by assumption) ?_
          rotate_left
          · refine Or.inl ⟨by rfl, ?_⟩
            (intro w hSw; (try dsimp only at hSw); go_simp; try with_reducible rfl)
          try simp only [Act.put, List.setIfInBounds_toArray, List.set_cons_zero, List.set_cons_succ]
          refine HeldT.take (i := 1) (v := ?_) (by simp only [List.getElem?_toArray, List.getElem?_cons_succ, List.getElem?_cons_zero]; rfl) (by kernel_rfl) (by kernel_rfl) (by kernel_rfl) (by kernel_rfl) (by exact fun _ _ _ h => h) ?_ (by assumption) ?_
          rotate_left
          · refine Or.inl ⟨by rfl, ?_⟩
            (intro w hSw; (try dsimp only at hSw); go_simp; try with_reducible rfl)
          try simp only [Act.put, List.setIfInBounds_toArray, List.set_cons_zero, List.set_cons_succ]
          refine HeldT.take (i := 2) (v := ?_) (by simp only [List.getElem?_toArray, List.getElem?_cons_succ, List.getElem?_cons_zero]; rfl) (by kernel_rfl) (by kernel_rfl) (by kernel_rfl) (by kernel_rfl) (by exact fun _ _ _ h => h) ?_ (by assumption) ?_
          rotate_left
          · refine Or.inl ⟨by rfl, ?_⟩
            (intro w hSw; (try dsimp only at hSw); go_simp; try with_reducible rfl)
          try simp only [Act.put, List.setIfInBounds_toArray, List.set_cons_zero, List.set_cons_succ]
          refine HeldT.take (i := 3) (v := ?_) (by simp only [List.getElem?_toArray, List.getElem?_cons_succ, List.getElem?_cons_zero]; rfl) (by kernel_rfl) (by kernel_rfl) (by kernel_rfl) (by kernel_rfl) (by exact fun _ _ _ h => h) ?_ (by assumption) ?_
          rotate_left
          · refine Or.inl ⟨by rfl, ?_⟩
            (intro w hSw; (try dsimp only at hSw); go_simp; try with_reducible rfl)
          try simp only [Act.put, List.setIfInBounds_toArray, List.set_cons_zero, List.set_cons_succ]
          refine HeldT.take (i := 4) (v := ?_) (by simp only [List.getElem?_toArray, List.getElem?_cons_succ, List.getElem?_cons_zero]; rfl) (by kernel_rfl) (by kernel_rfl) (by kernel_rfl) (by kernel_rfl) (by exact fun _ _ _ h => h) ?_ (by assumption) ?_
          rotate_left
          · refine Or.inl ⟨by rfl, ?_⟩
            (intro w hSw; (try dsimp only at hSw); go_simp; try with_reducible rfl)
          try simp only [Act.put, List.setIfInBounds_toArray, List.set_cons_zero, List.set_cons_succ]
          refine HeldT.take (i := 5) (v := ?_) (by simp only [List.getElem?_toArray, List.getElem?_cons_succ, List.getElem?_cons_zero]; rfl) (by kernel_rfl) (by kernel_rfl) (by kernel_rfl) (by kernel_rfl) (by exact fun _ _ _ h => h) ?_ (by assumption) ?_
          rotate_left
          · refine Or.inl ⟨by rfl, ?_⟩
            (intro w hSw; (try dsimp only at hSw); go_simp; try with_reducible rfl)
          try simp only [Act.put, List.setIfInBounds_toArray, List.set_cons_zero, List.set_cons_succ]
          refine HeldT.take (i := 6) (v := ?_) (by simp only [List.getElem?_toArray, List.getElem?_cons_succ, List.getElem?_cons_zero]; rfl) (by kernel_rfl) (by kernel_rfl) (by kernel_rfl) (by kernel_rfl) (by exact fun _ _ _ h => h) ?_ (by assumption) ?_
          rotate_left
          · refine Or.inl ⟨by rfl, ?_⟩
            (intro w hSw; (try dsimp only at hSw); go_simp; try with_reducible rfl)
          try simp only [Act.put, List.setIfInBounds_toArray, List.set_cons_zero, List.set_cons_succ]
          refine HeldT.take (i := 7) (v := ?_) (by simp only [List.getElem?_toArray, List.getElem?_cons_succ, List.getElem?_cons_zero]; rfl) (by kernel_rfl) (by kernel_rfl) (by kernel_rfl) (by kernel_rfl) (by exact fun _ _ _ h => h) ?_ (by assumption) ?_
          rotate_left
          · refine Or.inl ⟨by rfl, ?_⟩
            (intro w hSw; (try dsimp only at hSw); go_simp; try with_reducible rfl)
          try simp only [Act.put, List.setIfInBounds_toArray, List.set_cons_zero, List.set_cons_succ]
          refine HeldT.take (i := 8) (v := ?_) (by simp only [List.getElem?_toArray, List.getElem?_cons_succ, List.getElem?_cons_zero]; rfl) (by kernel_rfl) (by kernel_rfl) (by kernel_rfl) (by kernel_rfl) (by exact fun _ _ _ h => h) ?_ (by assumption) ?_
          rotate_left
          · refine Or.inl ⟨by rfl, ?_⟩
            (intro w hSw; (try dsimp only at hSw); go_simp; try with_reducible rfl)
          try simp only [Act.put, List.setIfInBounds_toArray, List.set_cons_zero, List.set_cons_succ]
          refine HeldT.take (i := 9) (v := ?_) (by simp only [List.getElem?_toArray, List.getElem?_cons_succ, List.getElem?_cons_zero]; rfl) (by kernel_rfl) (by kernel_rfl) (by kernel_rfl) (by kernel_rfl) (by exact fun _ _ _ h => h) ?_ (by assumption) ?_
          rotate_left
          · refine Or.inl ⟨by rfl, ?_⟩
            (intro w hSw; (try dsimp only at hSw); go_simp; try with_reducible rfl)
          try simp only [Act.put, List.setIfInBounds_toArray, List.set_cons_zero, List.set_cons_succ]
          refine HeldT.take (i := 10) (v := ?_) (by simp only [List.getElem?_toArray, List.getElem?_cons_succ, List.getElem?_cons_zero]; rfl) (by kernel_rfl) (by kernel_rfl) (by kernel_rfl) (by kernel_rfl) (by exact fun _ _ _ h => h) ?_ (by assumption) ?_
          rotate_left
          · refine Or.inl ⟨by rfl, ?_⟩
            (intro w hSw; (try dsimp only at hSw); go_simp; try with_reducible rfl)
          try simp only [Act.put, List.setIfInBounds_toArray, List.set_cons_zero, List.set_cons_succ]
          refine HeldT.one (i := 11) (by simp only [List.getElem?_toArray, List.getElem?_cons_succ, List.getElem?_cons_zero]; rfl) (by kernel_rfl) (by kernel_rfl) (fun K hK => ?_)
          go_simp
          ((refine (HIN.out _).mono ?_); rintro e w2 ⟨rfl, rfl⟩)
          try go_wp2_with fail
          refine hK.out _ _ ?_ (fun hHeld => ?_)
          · (try dsimp only); first | done | (exact hck)
          clear hK K
          try simp only [Act.put, List.setIfInBounds_toArray, List.set_cons_zero, List.set_cons_succ]
          refine HeldT.take (i := 12) (v := ?_) (by simp only [List.getElem?_toArray, List.getElem?_cons_succ, List.getElem?_cons_zero]; rfl) (by kernel_rfl) (by kernel_rfl) (by kernel_rfl) (by kernel_rfl) (by exact fun _ _ _ h => h) ?_ (by assumption) ?_
          rotate_left
          · refine Or.inl ⟨by rfl, ?_⟩
            (intro w hSw; (try dsimp only at hSw); go_simp; try with_reducible rfl)
          try simp only [Act.put, List.setIfInBounds_toArray, List.set_cons_zero, List.set_cons_succ]
          refine HeldT.take (i := 13) (v := ?_) (by simp only [List.getElem?_toArray, List.getElem?_cons_succ, List.getElem?_cons_zero]; rfl) (by kernel_rfl) (by kernel_rfl) (by kernel_rfl) (by kernel_rfl) (by exact fun _ _ _ h => h) ?_ (by assumption) ?_
          rotate_left
          · refine Or.inl ⟨by rfl, ?_⟩
            (intro w hSw; (try dsimp only at hSw); go_simp; try with_reducible rfl)
          try simp only [Act.put, List.setIfInBounds_toArray, List.set_cons_zero, List.set_cons_succ]
          refine HeldT.take (i := 14) (v := ?_) (by simp only [List.getElem?_toArray, List.getElem?_cons_succ, List.getElem?_cons_zero]; rfl) (by kernel_rfl) (by kernel_rfl) (by kernel_rfl) (by kernel_rfl) (by exact fun _ _ _ h => h) ?_ (by assumption) ?_
          rotate_left
          · refine Or.inl ⟨by rfl, ?_⟩
            (intro w hSw; (try dsimp only at hSw); go_simp; try with_reducible rfl)
          try simp only [Act.put, List.setIfInBounds_toArray, List.set_cons_zero, List.set_cons_succ]
          refine HeldT.tail (by kernel_rfl) rfl ?_
          go_wp2_with fail
          go_roundw
          case rel =>
            refine ⟨j + 1, by omega, by go_num, Go.Lib.hid ?_, Go.Lib.hid (HB.out.drew.setCell HW.out.hB _)⟩
            rw [HCU.out, ← HPS.out]
            exact (HW.out.below (Below.refl _ _).drew).set j HJP.out _
          case measure => simp [intOf]; omega
        · have HT2 : Hid (TRow wr w.heap.size g (ls.map (cutL m))) := by
            have h1 := HW.out
            have h2 : upto (ls.map (cutL m)) ls j = ls.map (cutL m) := by
              unfold upto
              have h3 := HN.out
              rw [List.take_of_length_le (by rw [List.length_map]; omega), List.drop_of_length_le (by omega), List.append_nil]
            rw [h2] at h1
            exact Go.Lib.hid h1
          have HTX := Go.Lib.hid (HTG.out (cutL m) (HTC.out m) g cap _ wr HT2.out)
          go_wp2_with fail
          refine HTX.out.mono ?_
          rintro e w3 ⟨rfl, rfl⟩
          go_wp2_with fail
          go_returns
          exact ⟨decide (0 < m), _, rfl, fun _ => ⟨HOK.out, by rw [← HMM.out]; exact HM0.out, by rw [← HMM.out]⟩, HB.out⟩
end Go.Proofs.YtbibokkclejapaaDoor
