/- Lines that are changed, in plain words; spec.times, spec.IndentedBy. -/
import Derived.Test.YtbibokkclejapaaDoorIndByAll
import Derived.Test.YtbibokkclejapaaDoorHeldTail
namespace Go.Proofs.YtbibokkclejapaaDoor
open Go.RowKit
set_option linter.unusedVariables false
set_option linter.unusedSimpArgs false

theorem tog_le (x : List UInt8) (r : List (List UInt8)) : x.length + (togL r).length ≤ (togL (x :: r)).length ∧ (togL r).length ≤ (togL (x :: r)).length := by
  cases r with
  | nil => simp [togL]
  | cons y r => rw [tog_cons x (y :: r) (by simp), List.length_append, List.length_cons]; omega
theorem tog_mem : ∀ (r : List (List UInt8)) (x : List UInt8), x ∈ r → x.length ≤ (togL r).length
  | y :: r, x, h => by
    have h1 := tog_le y r
    rcases List.mem_cons.1 h with rfl | h
    · omega
    · have := tog_mem r x h
      omega
theorem tog_take : ∀ (r : List (List UInt8)) (k : Nat), (togL (r.take k)).length ≤ (togL r).length
  | [], k => by simp [togL]
  | x :: r, 0 => by simp [togL]
  | [x], k + 1 => by simp [togL]
  | x :: y :: r, 1 => by rw [tog_cons _ _ (by simp)]; simp [togL]
  | x :: y :: r, k + 2 => by
    have := tog_take (y :: r) (k + 1)
    rw [List.take_succ_cons, tog_cons _ _ (by simp), tog_cons _ (y :: r) (by simp)]
    simp at this ⊢
    exact this
theorem rows_mem (l : List UInt8) : ∀ x ∈ rowsL l, x.length ≤ l.length := by
  induction l with
  | nil => intro x h; simp [rowsL] at h; simp [h]
  | cons c t ih =>
    intro x h
    by_cases hc : c = 10
    · subst hc
      rw [rows_nl] at h
      rcases List.mem_cons.1 h with rfl | h
      · simp
      · have := ih x h
        simp; omega
    · cases hr : rowsL t with
      | nil => exact absurd hr (rows_ne t)
      | cons y ys =>
        rw [rows_cons c t y ys hc hr] at h
        rw [hr] at ih
        rcases List.mem_cons.1 h with rfl | h
        · have := ih y (by simp)
          simp; omega
        · have := ih x (by simp [h])
          simp; omega
/-- The first k lines are changed. -/
def part (f : List UInt8 → List UInt8) (r : List (List UInt8)) (k : Nat) : List (List UInt8) := (mapR f r).take k ++ r.drop k
theorem part_zero (f : List UInt8 → List UInt8) (r : List (List UInt8)) : part f r 0 = r := by simp [part]
theorem part_all (f : List UInt8 → List UInt8) (r : List (List UInt8)) (k : Nat) (h : r.length ≤ k) : part f r k = mapR f r := by
  rw [part, List.take_of_length_le (by rw [map_length]; exact h), List.drop_of_length_le h, List.append_nil]
theorem part_length (f : List UInt8 → List UInt8) (r : List (List UInt8)) (k : Nat) (h : k ≤ r.length) : (part f r k).length = r.length := by
  rw [part, List.length_append, List.length_take, List.length_drop, map_length]; omega
theorem part_get (f : List UInt8 → List UInt8) (r : List (List UInt8)) (k : Nat) (h : k < r.length) (h' : k < (part f r k).length) : (part f r k)[k] = r[k] := by
  have e : ((mapR f r).take k).length = k := by rw [List.length_take, map_length]; omega
  have h2 : (part f r k)[k]? = some r[k] := by
    unfold part
    rw [List.getElem?_append_right (by omega), e, Nat.sub_self, List.getElem?_drop]
    simp [h]
  rw [List.getElem?_eq_getElem h'] at h2
  exact Option.some.inj h2
theorem part_set (f : List UInt8 → List UInt8) (r : List (List UInt8)) (k : Nat) (y : List UInt8) (h : k < r.length) (hy : (mapR f r)[k]? = some y) : (part f r k).set k y = part f r (k + 1) := by
  have e : ((mapR f r).take k).length = k := by rw [List.length_take, map_length]; omega
  unfold part
  rw [List.take_add_one, hy, List.set_append_right _ _ (by omega), e, Nat.sub_self, List.drop_eq_getElem_cons h]
  rw [List.set_cons_zero, Option.toList_some, List.append_assoc]
  rfl
theorem part_same (f : List UInt8 → List UInt8) (r : List (List UInt8)) (k : Nat) (h : k < r.length) (hy : (mapR f r)[k]? = some r[k]) : part f r k = part f r (k + 1) := by
  unfold part
  rw [List.take_add_one, hy, List.drop_eq_getElem_cons h]
  simp
theorem tx_append (a b : List UInt8) : tx (a ++ b) = tx a ++ tx b := by
  apply ByteArray.ext
  simp [tx]

theorem times_any (l : List UInt8) (n : Nat) (w : World) (hn : n ≤ 1000) (hl : l.length ≤ 1000000) : Calls Tryd.prog 36 #[.string (tx l), .int .i64 (n : Nat)] w fun e w' => e = .returned (.string (tx (rep l n))) ∧ w = w' := by
  obtain ⟨s, hs⟩ : ∃ s, s = tx l := ⟨_, rfl⟩
  have hss : s.size ≤ 1000000 := by rw [hs, tx_size]; exact hl
  have HS := Go.Lib.hid hs
  have HL := Go.Lib.hid hl
  rw [← hs]
  clear hs hl
  go_enter Tryd.func36, Tryd.ntmps36
  go_wp2_with fail
  go_loop [5, 6] (fun o i => ∃ (k : Nat) (X : ByteArray), k ≤ n ∧ i = .int .i64 (k : Nat) ∧ o = .string X ∧ Hid (X = tx (rep l k))) (fun _ i => n - (intOf i).toNat)
  case atStart => exact ⟨0, ⟨#[]⟩, Nat.zero_le _, rfl, rfl, Go.Lib.hid (by rfl)⟩
  case round =>
    obtain ⟨k, X, hk, rfl, rfl, HX⟩ := hrel
    by_cases hkn : k < n
    · have hXs : X.size ≤ 1000000000 := by
        rw [HX.out, tx_size, rep_length]
        have h1 := Nat.mul_le_mul (show k ≤ 1000 by omega) HL.out
        omega
      have c1 : (9223372036854775807 < X.size + s.size) = False := by simp; omega
      clear hXs
      go_wp2_with fail
      go_round
      case rel =>
        refine ⟨k + 1, _, by omega, by go_num, rfl, Go.Lib.hid ?_⟩
        rw [HX.out, HS.out, rep, tx_append]
      case measure => simp [intOf]; omega
    · have hE : k = n := by omega
      have HE := Go.Lib.hid hE
      clear hE
      go_wp2_with fail
      go_returns
      refine ⟨?_, rfl⟩
      rw [← HE.out, ← HX.out]
      rfl

set_option maxRecDepth 100000 in
set_option maxHeartbeats 1000000 in
theorem specBy_any (l bl : List UInt8) (n : Nat) (w : World) (hn : n ≤ 1000) (hl : l.length ≤ 900000) (hb : bl.length ≤ 1000000) (hr : (indP (rep bl n) false l).length ≤ 1000000000) :
    Calls Tryd.prog 16 #[.string (tx l), .int .i64 (n : Nat), .string (tx bl)] w fun e w' => e = .returned (.string (tx (indP (rep bl n) false l))) ∧ Below w.heap.size w w' := by
  have HR := Go.Lib.hid (rows_any l w hl)
  have HT := Go.Lib.hid fun W => times_any bl n W hn hb
  obtain ⟨p, hp⟩ : ∃ p, p = rep bl n := ⟨_, rfl⟩
  have hpl : p.length ≤ 1000000000 := by
    rw [hp, rep_length]
    have h1 := Nat.mul_le_mul hn hb
    omega
  have HRL : Hid (∀ x ∈ rowsL l, x.length ≤ 900000) := fun x hx => Nat.le_trans (rows_mem l x hx) hl
  have hti := (tog_ind p l).1
  have hrn := rows_length l
  rw [← hp] at HT hr ⊢
  rw [← hti] at hr ⊢
  obtain ⟨ls, hls⟩ : ∃ ls, ls = rowsL l := ⟨_, rfl⟩
  rw [← hls] at HR HRL hr hrn ⊢
  obtain ⟨n2, hn2⟩ : ∃ n2, n2 = ls.length := ⟨_, rfl⟩
  obtain ⟨s, hs⟩ : ∃ s, s = tx l := ⟨_, rfl⟩
  obtain ⟨t, ht⟩ : ∃ t, t = tx bl := ⟨_, rfl⟩
  obtain ⟨P, hP⟩ : ∃ P, P = tx p := ⟨_, rfl⟩
  have hPs : P.size ≤ 1000000000 := by rw [hP, tx_size]; exact hpl
  have HTG : Hid (∀ g cap B W, TRow W B g (mapR (fun x => p ++ x) ls) → Calls Tryd.prog 29 #[.slice (some ⟨g, 0, none⟩) n2 cap] W fun e w' => e = .returned (.string (tx (togL (mapR (fun x => p ++ x) ls)))) ∧ W = w') := fun g cap B W h => by
    rw [hn2, ← map_length (fun x => p ++ x) ls]
    exact together_any g cap B _ W h hr (by rw [map_length]; omega) (fun x hx => Nat.le_trans (tog_mem _ x hx) hr) (fun k => Nat.le_trans (tog_take _ k) hr)
  have hn3 : n2 ≤ 900001 := by omega
  rw [← hs] at HR ⊢
  rw [← ht] at HT ⊢
  have HP := Go.Lib.hid hP
  have HN := Go.Lib.hid hn2
  rw [← hP] at HT
  clear hl hb hr hp hpl hti hrn hls hs ht hP
  rw [show RowsPost ls w = fun e w' => ∃ g cap, e = .returned (.slice (some ⟨g, 0, none⟩) n2 cap) ∧ TRow w' w.heap.size g ls ∧ Below w.heap.size w w' by rw [hn2]; rfl] at HR
  clear hn2
  go_enter Tryd.func16, Tryd.ntmps16
  go_wp2_with fail
  refine HR.out.mono ?_
  rintro e w1 ⟨g, cap, rfl, t1, b1⟩
  have T1 := Go.Lib.hid t1
  have B1 := Go.Lib.hid b1
  clear t1 b1
  go_wp2_with fail
  go_loopw [8] (fun i wr => ∃ k : Nat, k ≤ n2 ∧ i = .int .i64 (k : Nat) ∧ Hid (TRow wr w.heap.size g (part (fun x => p ++ x) ls k)) ∧ Hid (Below w.heap.size w wr)) (fun i _ => n2 - (intOf i).toNat)
  case atStart => exact ⟨0, Nat.zero_le _, rfl, Go.Lib.hid (by rw [part_zero]; exact T1.out), B1⟩
  case round =>
    obtain ⟨k, hk, rfl, HW, HB⟩ := hrel
    by_cases hkn : k < n2
    · have hkl : k < ls.length := by rw [← HN.out]; exact hkn
      have hkp : k < (part (fun x => p ++ x) ls k).length := by rw [part_length _ _ _ (by omega)]; exact hkl
      obtain ⟨y, hy⟩ : ∃ y, y = ls[k] := ⟨_, rfl⟩
      obtain ⟨Y, hY⟩ : ∃ Y, Y = tx y := ⟨_, rfl⟩
      have hck : wr.cell? ⟨g, k, none⟩ = some (.string Y) := by
        have := HW.out.c k hkp
        rw [part_get _ _ _ hkl hkp] at this
        rw [hY, hy]; exact this
      have hfz := HW.out.f k
      have hgz := HW.out.lt
      have hmg := map_get (fun x => p ++ x) ls k hkl
      have hYs : Y.size ≤ 1000000000 := by
        rw [hY, tx_size, hy]
        exact Nat.le_trans (HRL.out _ (List.getElem_mem _)) (by omega)
      have c1 : (9223372036854775807 < P.size + Y.size) = False := by simp; omega
      rw [← hy, ← HN.out] at hmg
      have HY := Go.Lib.hid hY
      have HPS : Hid (∀ u, (mapR (fun x => p ++ x) ls)[k]? = some u → (part (fun x => p ++ x) ls k).set k u = part (fun x => p ++ x) ls (k + 1)) := fun u hu => part_set _ ls k u hkl hu
      have HPE : Hid ((mapR (fun x => p ++ x) ls)[k]? = some y → part (fun x => p ++ x) ls k = part (fun x => p ++ x) ls (k + 1)) := fun hu => part_same _ ls k hkl (by rw [hu, hy])
      have HKP := Go.Lib.hid hkp
      by_cases h1 : k + 1 < n2
      · rw [if_pos (.inl h1)] at hmg
        have HM := Go.Lib.hid hmg
        have q1 : (k : Int) + 1 < n2 := by omega
        clear hmg hY hy hkl hkp hYs h1
        have d1 : wr.drew.cell? ⟨g, k, none⟩ = some (.string Y) := hck
        go_wp2_with fail
        refine region_held_tail 11 (S := (fun w' => w'.cell? ⟨g, k, none⟩ = some (.string Y))) (by kernel_rfl) (by kernel_rfl) ?_ (fun hHeld => ?_)
        · (try dsimp only); first | done | (exact hck)
        refine HeldT.take (i := 0) (v := ?_) (by simp only [List.getElem?_toArray, List.getElem?_cons_succ, List.getElem?_cons_zero]; rfl) (by kernel_rfl) (by kernel_rfl) (by kernel_rfl) (by kernel_rfl) (by exact fun _ _ _ h => h) ?_ (by assumption) ?_
        rotate_left
        · refine Or.inl ⟨by rfl, ?_⟩
          (intro w hSw; (try dsimp only at hSw); go_simp; try with_reducible rfl)
        try simp only [Act.put, List.setIfInBounds_toArray, List.set_cons_zero, List.set_cons_succ]
        refine HeldT.take (i := 1) (v := ?_) (by simp only [List.getElem?_toArray, List.getElem?_cons_succ, List.getElem?_cons_zero]; rfl) (by kernel_rfl) (by kernel_rfl) (by kernel_rfl) (by kernel_rfl) (by exact fun _ _ _ h => h) ?_ (by assumption) ?_
        rotate_left
        · refine Or.inl ⟨by rfl, ?_⟩
          (intro w hSw; (try dsimp only at hSw); go_simp; try with_reducible rfl)
        try simp only [Act.put, List.setIfInBounds_toArray, List.set_cons_zero, List.set_cons_succ]
        refine HeldT.take (i := 2) (v := ?_) (by simp only [List.getElem?_toArray, List.getElem?_cons_succ, List.getElem?_cons_zero]; rfl) (by kernel_rfl) (by kernel_rfl) (by kernel_rfl) (by kernel_rfl) (by exact fun _ _ _ h => h) ?_ (by assumption) ?_
        rotate_left
        · refine Or.inl ⟨by rfl, ?_⟩
          (intro w hSw; (try dsimp only at hSw); go_simp; try with_reducible rfl)
        try simp only [Act.put, List.setIfInBounds_toArray, List.set_cons_zero, List.set_cons_succ]
        refine HeldT.take (i := 3) (v := ?_) (by simp only [List.getElem?_toArray, List.getElem?_cons_succ, List.getElem?_cons_zero]; rfl) (by kernel_rfl) (by kernel_rfl) (by kernel_rfl) (by kernel_rfl) (by exact fun _ _ _ h => h) ?_ (by assumption) ?_
        rotate_left
        · refine Or.inl ⟨by rfl, ?_⟩
          (intro w hSw; (try dsimp only at hSw); go_simp; try with_reducible rfl)
        try simp only [Act.put, List.setIfInBounds_toArray, List.set_cons_zero, List.set_cons_succ]
        refine HeldT.take (i := 5) (v := ?_) (by simp only [List.getElem?_toArray, List.getElem?_cons_succ, List.getElem?_cons_zero]; rfl) (by kernel_rfl) (by kernel_rfl) (by kernel_rfl) (by kernel_rfl) (by exact fun _ _ _ h => h) ?_ (by assumption) ?_
        rotate_left
        · refine Or.inl ⟨by rfl, ?_⟩
          (intro w hSw; (try dsimp only at hSw); go_simp; try with_reducible rfl)
        try simp only [Act.put, List.setIfInBounds_toArray, List.set_cons_zero, List.set_cons_succ]
        refine HeldT.take (i := 6) (v := ?_) (by simp only [List.getElem?_toArray, List.getElem?_cons_succ, List.getElem?_cons_zero]; rfl) (by kernel_rfl) (by kernel_rfl) (by kernel_rfl) (by kernel_rfl) (by exact fun _ _ _ h => h) ?_ (by assumption) ?_
        rotate_left
        · refine Or.inl ⟨by rfl, ?_⟩
          (intro w hSw; (try dsimp only at hSw); go_simp; try with_reducible rfl)
        try simp only [Act.put, List.setIfInBounds_toArray, List.set_cons_zero, List.set_cons_succ]
        refine HeldT.take (i := 7) (v := ?_) (by simp only [List.getElem?_toArray, List.getElem?_cons_succ, List.getElem?_cons_zero]; rfl) (by kernel_rfl) (by kernel_rfl) (by kernel_rfl) (by kernel_rfl) (by exact fun _ _ _ h => h) ?_ (by assumption) ?_
        rotate_left
        · refine Or.inl ⟨by rfl, ?_⟩
          (intro w hSw; (try dsimp only at hSw); go_simp; try with_reducible rfl)
        try simp only [Act.put, List.setIfInBounds_toArray, List.set_cons_zero, List.set_cons_succ]
        refine HeldT.take (i := 8) (v := ?_) (by simp only [List.getElem?_toArray, List.getElem?_cons_succ, List.getElem?_cons_zero]; rfl) (by kernel_rfl) (by kernel_rfl) (by kernel_rfl) (by kernel_rfl) (by exact fun _ _ _ h => h) ?_ (by assumption) ?_
        rotate_left
        · refine Or.inl ⟨by rfl, ?_⟩
          (intro w hSw; (try dsimp only at hSw); go_simp; try with_reducible rfl)
        try simp only [Act.put, List.setIfInBounds_toArray, List.set_cons_zero, List.set_cons_succ]
        refine HeldT.one (i := 4) (by simp only [List.getElem?_toArray, List.getElem?_cons_succ, List.getElem?_cons_zero]; rfl) (by kernel_rfl) (by kernel_rfl) (fun K hK => ?_)
        go_simp
        ((refine (HT.out _).mono ?_); rintro e w2 ⟨rfl, rfl⟩)
        try go_wp2_with fail
        refine hK.out _ _ ?_ (fun hHeld => ?_)
        · (try dsimp only); first | done | (exact hck)
        clear hK K
        try simp only [Act.put, List.setIfInBounds_toArray, List.set_cons_zero, List.set_cons_succ]
        refine HeldT.take (i := 9) (v := ?_) (by simp only [List.getElem?_toArray, List.getElem?_cons_succ, List.getElem?_cons_zero]; rfl) (by kernel_rfl) (by kernel_rfl) (by kernel_rfl) (by kernel_rfl) (by exact fun _ _ _ h => h) ?_ (by assumption) ?_
        rotate_left
        · refine Or.inl ⟨by rfl, ?_⟩
          (intro w hSw; (try dsimp only at hSw); go_simp; try with_reducible rfl)
        try simp only [Act.put, List.setIfInBounds_toArray, List.set_cons_zero, List.set_cons_succ]
        refine HeldT.take (i := 10) (v := ?_) (by simp only [List.getElem?_toArray, List.getElem?_cons_succ, List.getElem?_cons_zero]; rfl) (by kernel_rfl) (by kernel_rfl) (by kernel_rfl) (by kernel_rfl) (by exact fun _ _ _ h => h) ?_ (by assumption) ?_
        rotate_left
        · refine Or.inl ⟨by rfl, ?_⟩
          (intro w hSw; (try dsimp only at hSw); go_simp; try with_reducible rfl)
        try simp only [Act.put, List.setIfInBounds_toArray, List.set_cons_zero, List.set_cons_succ]
        refine HeldT.tail (by kernel_rfl) rfl ?_
        go_wp2_with fail
        go_roundw
        case rel =>
          refine ⟨k + 1, by omega, by go_num, Go.Lib.hid ?_, Go.Lib.hid (HB.out.drew.setCell HW.out.hB _)⟩
          rw [HP.out, HY.out, ← tx_append, ← HPS.out _ HM.out]
          exact (HW.out.below (Below.refl _ _).drew).set k HKP.out _
        case measure => simp [intOf]; omega
      · by_cases h2 : y = []
        · rw [if_neg (by simp [h1, h2])] at hmg
          have HM := Go.Lib.hid hmg
          have q1 : ¬ ((k : Int) + 1 < n2) := by omega
          have q2 : Y = ⟨#[]⟩ := by rw [hY, h2]; rfl
          clear hmg hY hy hkl hkp hYs h1 h2
          subst q2
          go_wp2_with fail
          go_roundw
          case rel => exact ⟨k + 1, by omega, by go_num, Go.Lib.hid (by rw [← HPE.out HM.out]; exact HW.out), HB⟩
          case measure => simp [intOf]; omega
        · rw [if_pos (.inr h2)] at hmg
          have HM := Go.Lib.hid hmg
          have q1 : ¬ ((k : Int) + 1 < n2) := by omega
          have q2 : Y.toList.isEmpty = false := by
            rw [hY, ByteArray.toList_eq]
            simpa [tx] using h2
          clear hmg hY hy hkl hkp hYs h1 h2
          have d1 : wr.drew.cell? ⟨g, k, none⟩ = some (.string Y) := hck
          go_wp2_with fail
          refine region_held_tail 11 (S := (fun w' => w'.cell? ⟨g, k, none⟩ = some (.string Y))) (by kernel_rfl) (by kernel_rfl) ?_ (fun hHeld => ?_)
          · (try dsimp only); first | done | (exact hck)
          refine HeldT.take (i := 0) (v := ?_) (by simp only [List.getElem?_toArray, List.getElem?_cons_succ, List.getElem?_cons_zero]; rfl) (by kernel_rfl) (by kernel_rfl) (by kernel_rfl) (by kernel_rfl) (by exact fun _ _ _ h => h) ?_ (by assumption) ?_
          rotate_left
          · refine Or.inl ⟨by rfl, ?_⟩
            (intro w hSw; (try dsimp only at hSw); go_simp; try with_reducible rfl)
          try simp only [Act.put, List.setIfInBounds_toArray, List.set_cons_zero, List.set_cons_succ]
          refine HeldT.take (i := 1) (v := ?_) (by simp only [List.getElem?_toArray, List.getElem?_cons_succ, List.getElem?_cons_zero]; rfl) (by kernel_rfl) (by kernel_rfl) (by kernel_rfl) (by kernel_rfl) (by exact fun _ _ _ h => h) ?_ (by assumption) ?_
          rotate_left
          · refine Or.inl ⟨by rfl, ?_⟩
            (intro w hSw; (try dsimp only at hSw); go_simp; try with_reducible rfl)
          try simp only [Act.put, List.setIfInBounds_toArray, List.set_cons_zero, List.set_cons_succ]
          refine HeldT.take (i := 2) (v := ?_) (by simp only [List.getElem?_toArray, List.getElem?_cons_succ, List.getElem?_cons_zero]; rfl) (by kernel_rfl) (by kernel_rfl) (by kernel_rfl) (by kernel_rfl) (by exact fun _ _ _ h => h) ?_ (by assumption) ?_
          rotate_left
          · refine Or.inl ⟨by rfl, ?_⟩
            (intro w hSw; (try dsimp only at hSw); go_simp; try with_reducible rfl)
          try simp only [Act.put, List.setIfInBounds_toArray, List.set_cons_zero, List.set_cons_succ]
          refine HeldT.take (i := 3) (v := ?_) (by simp only [List.getElem?_toArray, List.getElem?_cons_succ, List.getElem?_cons_zero]; rfl) (by kernel_rfl) (by kernel_rfl) (by kernel_rfl) (by kernel_rfl) (by exact fun _ _ _ h => h) ?_ (by assumption) ?_
          rotate_left
          · refine Or.inl ⟨by rfl, ?_⟩
            (intro w hSw; (try dsimp only at hSw); go_simp; try with_reducible rfl)
          try simp only [Act.put, List.setIfInBounds_toArray, List.set_cons_zero, List.set_cons_succ]
          refine HeldT.take (i := 5) (v := ?_) (by simp only [List.getElem?_toArray, List.getElem?_cons_succ, List.getElem?_cons_zero]; rfl) (by kernel_rfl) (by kernel_rfl) (by kernel_rfl) (by kernel_rfl) (by exact fun _ _ _ h => h) ?_ (by assumption) ?_
          rotate_left
          · refine Or.inl ⟨by rfl, ?_⟩
            (intro w hSw; (try dsimp only at hSw); go_simp; try with_reducible rfl)
          try simp only [Act.put, List.setIfInBounds_toArray, List.set_cons_zero, List.set_cons_succ]
          refine HeldT.take (i := 6) (v := ?_) (by simp only [List.getElem?_toArray, List.getElem?_cons_succ, List.getElem?_cons_zero]; rfl) (by kernel_rfl) (by kernel_rfl) (by kernel_rfl) (by kernel_rfl) (by exact fun _ _ _ h => h) ?_ (by assumption) ?_
          rotate_left
          · refine Or.inl ⟨by rfl, ?_⟩
            (intro w hSw; (try dsimp only at hSw); go_simp; try with_reducible rfl)
          try simp only [Act.put, List.setIfInBounds_toArray, List.set_cons_zero, List.set_cons_succ]
          refine HeldT.take (i := 7) (v := ?_) (by simp only [List.getElem?_toArray, List.getElem?_cons_succ, List.getElem?_cons_zero]; rfl) (by kernel_rfl) (by kernel_rfl) (by kernel_rfl) (by kernel_rfl) (by exact fun _ _ _ h => h) ?_ (by assumption) ?_
          rotate_left
          · refine Or.inl ⟨by rfl, ?_⟩
            (intro w hSw; (try dsimp only at hSw); go_simp; try with_reducible rfl)
          try simp only [Act.put, List.setIfInBounds_toArray, List.set_cons_zero, List.set_cons_succ]
          refine HeldT.take (i := 8) (v := ?_) (by simp only [List.getElem?_toArray, List.getElem?_cons_succ, List.getElem?_cons_zero]; rfl) (by kernel_rfl) (by kernel_rfl) (by kernel_rfl) (by kernel_rfl) (by exact fun _ _ _ h => h) ?_ (by assumption) ?_
          rotate_left
          · refine Or.inl ⟨by rfl, ?_⟩
            (intro w hSw; (try dsimp only at hSw); go_simp; try with_reducible rfl)
          try simp only [Act.put, List.setIfInBounds_toArray, List.set_cons_zero, List.set_cons_succ]
          refine HeldT.one (i := 4) (by simp only [List.getElem?_toArray, List.getElem?_cons_succ, List.getElem?_cons_zero]; rfl) (by kernel_rfl) (by kernel_rfl) (fun K hK => ?_)
          go_simp
          ((refine (HT.out _).mono ?_); rintro e w2 ⟨rfl, rfl⟩)
          try go_wp2_with fail
          refine hK.out _ _ ?_ (fun hHeld => ?_)
          · (try dsimp only); first | done | (exact hck)
          clear hK K
          try simp only [Act.put, List.setIfInBounds_toArray, List.set_cons_zero, List.set_cons_succ]
          refine HeldT.take (i := 9) (v := ?_) (by simp only [List.getElem?_toArray, List.getElem?_cons_succ, List.getElem?_cons_zero]; rfl) (by kernel_rfl) (by kernel_rfl) (by kernel_rfl) (by kernel_rfl) (by exact fun _ _ _ h => h) ?_ (by assumption) ?_
          rotate_left
          · refine Or.inl ⟨by rfl, ?_⟩
            (intro w hSw; (try dsimp only at hSw); go_simp; try with_reducible rfl)
          try simp only [Act.put, List.setIfInBounds_toArray, List.set_cons_zero, List.set_cons_succ]
          refine HeldT.take (i := 10) (v := ?_) (by simp only [List.getElem?_toArray, List.getElem?_cons_succ, List.getElem?_cons_zero]; rfl) (by kernel_rfl) (by kernel_rfl) (by kernel_rfl) (by kernel_rfl) (by exact fun _ _ _ h => h) ?_ (by assumption) ?_
          rotate_left
          · refine Or.inl ⟨by rfl, ?_⟩
            (intro w hSw; (try dsimp only at hSw); go_simp; try with_reducible rfl)
          try simp only [Act.put, List.setIfInBounds_toArray, List.set_cons_zero, List.set_cons_succ]
          refine HeldT.tail (by kernel_rfl) rfl ?_
          go_wp2_with fail
          go_roundw
          case rel =>
            refine ⟨k + 1, by omega, by go_num, Go.Lib.hid ?_, Go.Lib.hid (HB.out.drew.setCell HW.out.hB _)⟩
            rw [HP.out, HY.out, ← tx_append, ← HPS.out _ HM.out]
            exact (HW.out.below (Below.refl _ _).drew).set k HKP.out _
          case measure => simp [intOf]; omega
    · have hE : k = n2 := by omega
      have HE : Hid (TRow wr w.heap.size g (mapR (fun x => p ++ x) ls)) := by
        have := HW.out
        rw [part_all _ _ _ (by rw [hE, HN.out]; exact Nat.le_refl _)] at this
        exact Go.Lib.hid this
      have HTX := Go.Lib.hid (HTG.out g cap _ wr HE.out)
      clear hE
      go_wp2_with fail
      refine HTX.out.mono ?_
      rintro e w3 ⟨rfl, rfl⟩
      go_wp2_with fail
      go_returns
      exact ⟨rfl, HB.out⟩
end Go.Proofs.YtbibokkclejapaaDoor
