/- laws.FnPartsCut. (Printed by gen/mkpartslaw.py.) -/
import Derived.Test.YtbibokkclejapaaDoorIndWid
namespace Go.Proofs.YtbibokkclejapaaDoor
open Go.RowKit
set_option linter.unusedVariables false
set_option linter.unusedSimpArgs false

theorem padP_count (n : Nat) : ∀ (l : List UInt8) (ln : Nat), (padP n ln l).length ≤ l.length + n * l.count 10
  | [], ln => by simp [padP]
  | c :: t, ln => by
    have h1 := padP_count n t 0
    have h2 := padP_count n t (ln + 1)
    by_cases h : c = 10
    · subst h
      rw [padP, if_pos rfl, List.count_cons_self, Nat.mul_succ, List.length_append, List.length_replicate, List.length_cons, List.length_cons]
      omega
    · rw [padP, if_neg h, List.count_cons_of_ne h, List.length_cons, List.length_cons]
      omega
theorem indP_count (p : List UInt8) (hp : p.count 10 = 0) : ∀ (l : List UInt8) (sk : Bool), (indP p sk l).count 10 = l.count 10
  | [], sk => rfl
  | c :: t, sk => by
    have h1 := indP_count p hp t (c != 10)
    rw [indP, List.count_append, List.count_cons, List.count_cons, h1]
    split <;> simp [hp]
theorem two_pa (w : World) (a b c d : List UInt8) : PA ((w.alloc (.cells #[.string (tx a), .string (tx b)] 9)).alloc (.cells #[.string (tx c), .string (tx d)] 9)).drew.drew w.heap.size [a, b] ∧ PA ((w.alloc (.cells #[.string (tx a), .string (tx b)] 9)).alloc (.cells #[.string (tx c), .string (tx d)] 9)).drew.drew (w.heap.size + 1) [c, d] ∧ Below w.heap.size w ((w.alloc (.cells #[.string (tx a), .string (tx b)] 9)).alloc (.cells #[.string (tx c), .string (tx d)] 9)).drew.drew := by
  obtain ⟨W1, hW1⟩ : ∃ W, W = w.alloc (.cells #[.string (tx a), .string (tx b)] 9) := ⟨_, rfl⟩
  have s1 : W1.heap.size = w.heap.size + 1 := by rw [hW1]; simp
  have h1 : W1.heap[w.heap.size]? = some (.cells #[.string (tx a), .string (tx b)] 9 (0, 0)) := by rw [hW1]; exact heap_alloc_new w _
  rw [← hW1]
  obtain ⟨W, hW⟩ : ∃ W, W = W1.alloc (.cells #[.string (tx c), .string (tx d)] 9) := ⟨_, rfl⟩
  have s2 : W.heap.size = w.heap.size + 2 := by rw [hW]; simp [s1]
  have h2 : W.heap[w.heap.size + 1]? = some (.cells #[.string (tx c), .string (tx d)] 9 (0, 0)) := by
    have := heap_alloc_new W1 (.cells #[.string (tx c), .string (tx d)] 9 (0, 0))
    rw [← hW, s1] at this
    exact this
  have h3 : W.heap[w.heap.size]? = some (.cells #[.string (tx a), .string (tx b)] 9 (0, 0)) := by
    rw [hW, Below.heap_alloc _ _ _ (by omega)]; exact h1
  have hb : Below w.heap.size w W := by
    rw [hW, hW1]
    exact ((Below.refl _ _).alloc (Nat.le_refl _) _).alloc (by simp) _
  rw [← hW]
  have e : W.drew.drew.heap = W.heap := rfl
  refine ⟨⟨by rw [e]; omega, fun j hj => ?_⟩, ⟨by rw [e]; omega, fun j hj => ?_⟩, hb.drew.drew⟩
  · rw [World.cell?, e, h3]
    match j, hj with
    | 0, _ => rfl
    | 1, _ => rfl
  · rw [World.cell?, e, h2]
    match j, hj with
    | 0, _ => rfl
    | 1, _ => rfl
theorem one_pa (w : World) (a : List UInt8) : PA (w.alloc (.cells #[.string (tx a)] 9)) w.heap.size [a] := by
  have h1 := heap_alloc_new w (.cells #[.string (tx a)] 9 (0, 0))
  refine ⟨by simp, fun j hj => ?_⟩
  rw [World.cell?, h1]
  match j, hj with
  | 0, _ => rfl

namespace fnPartsCut
set_option maxRecDepth 100000 in
set_option maxHeartbeats 1000000 in
theorem walk (s : ByteArray) (a b n : Int) (w : World) (_hs : s.size ≤ maxLen) (wa : (Lit.int .u8 a).wf = true) (wb : (Lit.int .u8 b).wf = true) (wn : (Lit.int .u8 n).wf = true) {X : Prop} (_hL : X) :
    Calls Tryd.prog 8 #[.string s, .int .u8 a, .int .u8 b, .int .u8 n] w fun e w' => e = .returned (.bool true) ∧ Below w.heap.size w w' := by
  obtain ⟨ha0, ha1⟩ := Go.bounds_u8 wa
  obtain ⟨hb0, hb1⟩ := Go.bounds_u8 wb
  obtain ⟨hn0, hn1⟩ := Go.bounds_u8 wn
  clear wa wb wn _hL
  unfold maxLen at _hs
  by_cases g1 : (2147483647 : Int) < s.size
  · go_enter Tryd.func8, Tryd.ntmps8
    go_wp2_with fail
    go_returns
    exact ⟨rfl, Below.refl _ _⟩
  have HS := Go.Lib.hid (some16_any s w (by omega))
  obtain ⟨an, rfl⟩ := Int.eq_ofNat_of_zero_le ha0
  obtain ⟨bn, rfl⟩ := Int.eq_ofNat_of_zero_le hb0
  obtain ⟨n, rfl⟩ := Int.eq_ofNat_of_zero_le hn0
  obtain ⟨l, hl⟩ := tx_of s
  have HSL := Go.Lib.hid hl
  obtain ⟨i, hi⟩ : ∃ i, i = an % (s.size + 1) := ⟨_, rfl⟩
  obtain ⟨k, hk⟩ : ∃ k, k = bn % (s.size + 1) := ⟨_, rfl⟩
  have his : i ≤ s.size := by rw [hi]; have := Nat.mod_lt an (show 0 < s.size + 1 by omega); omega
  have hks : k ≤ s.size := by rw [hk]; have := Nat.mod_lt bn (show 0 < s.size + 1 by omega); omega
  have hri : (an : Int).tmod ((s.size : Int) + 1) = (i : Int) := by rw [hi]; rfl
  have hrk : (bn : Int).tmod ((s.size : Int) + 1) = (k : Int) := by rw [hk]; rfl
  have hwa : IntKind.i64.wrap (an : Int) = an := IntWalk.i64_in _ (by omega)
  have hwb : IntKind.i64.wrap (bn : Int) = bn := IntWalk.i64_in _ (by omega)
  have hws : IntKind.i64.wrap ((s.size : Int) + 1) = (s.size : Int) + 1 := IntWalk.i64_in _ (by omega)
  have hdz : ¬ ((s.size : Int) + 1 = 0) := by omega
  have hi0 : (0 : Int) ≤ i := by omega
  have hi1 : (i : Int) ≤ s.size := by omega
  have hk0 : (0 : Int) ≤ k := by omega
  have hk1 : (k : Int) ≤ s.size := by omega
  clear hl hi hk
  go_enter Tryd.func8, Tryd.ntmps8
  go_wp2_with fail
  refine HS.out.mono ?_
  rintro e w1 ⟨bv, rfl, hp, rfl⟩
  cases bv
  · clear hp
    go_wp2_with fail
    go_returns
    exact ⟨rfl, Below.refl _ _⟩
  have hp' := hp rfl
  have HP : Hid (Pla l ∧ s.size ≤ 800) := ⟨by
    have := hp'.1
    rw [HSL.out] at this
    exact this, hp'.2⟩
  clear hp hp'
  by_cases g0 : n = 0
  · subst g0
    go_wp2_with fail
    go_returns
    exact ⟨rfl, Below.refl _ _⟩
  have q0 : ((n : Int) == 0) = false := by simp; omega
  by_cases g2 : (50 : Int) < n
  · go_wp2_with fail
    go_returns
    exact ⟨rfl, Below.refl _ _⟩
  have hn50 : n ≤ 50 := by omega
  have g2n : ¬ (50 < n) := by omega
  have hwn : IntKind.u64.wrap (n : Int) = n := IntWalk.u64_in _ (by omega)
  have hw2 : IntKind.u64.wrap (2 * (n : Int)) = ((2 * n : Nat) : Int) := by
    rw [IntWalk.u64_in _ (by omega)]; omega
  have hll : l.length ≤ 800 := by
    have := HP.out.2
    rw [HSL.out, tx_size] at this
    exact this
  have hparts : ∀ u v : List UInt8, u ++ v = l → (∀ y ∈ [u, v], Pla y ∧ y.length ≤ 800) ∧ [u, v].flatten = l := fun u v h => by
    have hz := congrArg List.length h
    rw [List.length_append] at hz
    refine ⟨fun y hy => ?_, by simpa using h⟩
    rcases List.mem_cons.1 hy with rfl | hy
    · exact ⟨fun c hc => HP.out.1 c (by rw [← h]; exact List.mem_append_left _ hc), by omega⟩
    · rw [List.mem_singleton] at hy
      subst hy
      exact ⟨fun c hc => HP.out.1 c (by rw [← h]; exact List.mem_append_right _ hc), by omega⟩
  have hind : (indP (List.replicate n 32) false l).length ≤ 40800 := by
    have h1 := indP_length (List.replicate n (32 : UInt8)) l false
    rw [List.length_replicate] at h1
    have h2 := Nat.mul_le_mul (show n + 1 ≤ 51 by omega) hll
    omega
  have hpad : (padP n 0 l).length ≤ 40800 := by
    have h1 := padP_length n l 0
    have h2 := Nat.mul_le_mul (show n + 1 ≤ 51 by omega) hll
    omega
  have hfit : Fit (2 * n) (indP (List.replicate n 32) false l) := by
    have h1 := padP_count (2 * n) (indP (List.replicate n 32) false l) 0
    rw [indP_count _ (List.count_eq_zero.2 (fun hc => by have := List.eq_of_mem_replicate hc; exact absurd this (by decide)))] at h1
    have h2 := Nat.mul_le_mul (show 2 * n ≤ 100 by omega) (Nat.le_trans (List.count_le_length (a := (10 : UInt8)) (l := l)) hll)
    exact ⟨by omega, by omega⟩
  have HIP : Hid (∀ (x : Nat) (u v : List UInt8) (W : World), PA W x [u, v] → u ++ v = l → Calls Tryd.prog 21 #[.slice (some ⟨x, 0, none⟩) 2 2, .int .u64 (n : Nat)] W fun e w' => e = .returned (.string (tx (indP (List.replicate n 32) false l))) ∧ Below W.heap.size W w') := fun x u v W hx h => by
    obtain ⟨h1, h2⟩ := hparts u v h
    have := indentPiped_any n x 2 [u, v] W hx (by omega) (fun y hy => ⟨(h1 y hy).1, by have := (h1 y hy).2; omega⟩) (by simp) (by rw [h2]; omega)
    rw [h2] at this
    exact this
  have HPP : Hid (∀ (x : Nat) (u v : List UInt8) (W : World), PA W x [u, v] → u ++ v = l → Calls Tryd.prog 22 #[.slice (some ⟨x, 0, none⟩) 2 2, .int .u64 (n : Nat)] W fun e w' => e = .returned (.string (tx (padL n l))) ∧ Below W.heap.size W w') := fun x u v W hx h => by
    obtain ⟨h1, h2⟩ := hparts u v h
    have := padPiped_any n x 2 [u, v] W hx (by omega) (fun y hy => (h1 y hy).1) (by simp) (by rw [h2]; omega) (by rw [h2]; omega)
    rw [h2] at this
    exact this
  have HBW : Hid (∀ (x : Nat) (u v : List UInt8) (W : World), PA W x [u, v] → u ++ v = l → Calls Tryd.prog 23 #[.slice (some ⟨x, 0, none⟩) 2 2] W fun e w' => e = .returned (.int .i64 (wL l : Nat)) ∧ Below W.heap.size W w') := fun x u v W hx h => by
    obtain ⟨h1, h2⟩ := hparts u v h
    have := bufWidth_any x 2 [u, v] W hx (fun y hy => ⟨(h1 y hy).1, by have := (h1 y hy).2; omega⟩) (by simp) (by rw [h2]; omega)
    rw [h2] at this
    exact this
  have HIN : Hid (∀ (x : Nat) (u v : List UInt8) (W : World), PA W x [u, v] → u ++ v = l → Calls Tryd.prog 24 #[.slice (some ⟨x, 0, none⟩) 2 2, .int .u64 (n : Nat), .int .u64 ((2 * n : Nat) : Int)] W fun e w' => e = .returned (.string (tx (padL (2 * n) (indP (List.replicate n 32) false l)))) ∧ Below W.heap.size W w') := fun x u v W hx h => by
    obtain ⟨h1, h2⟩ := hparts u v h
    have := insetPadded_any n (2 * n) x 2 [u, v] W hx (by omega) (by omega) (fun y hy => ⟨(h1 y hy).1, by have := (h1 y hy).2; omega⟩) (by simp) (by rw [h2]; exact hfit)
    rw [h2] at this
    exact this
  have HD : Hid (∀ (x : Nat) (W : World), PA W x [[97]] → Calls Tryd.prog 22 #[.slice (some ⟨x, 0, none⟩) 1 1, .int .u64 2] W fun e w' => e = .returned (.string ⟨#[97, 32]⟩) ∧ Below W.heap.size W w') := fun x W hx =>
    padPiped_any 2 x 1 [[97]] W hx (by omega) (fun y hy c hc => by
      rw [List.mem_singleton] at hy
      subst hy
      rw [List.mem_singleton] at hc
      subst hc
      exact .inr (by decide)) (by decide) (by decide) (by decide)
  obtain ⟨r1, hr1⟩ : ∃ r, r = tx (indP (List.replicate n 32) false l) := ⟨_, rfl⟩
  obtain ⟨r2, hr2⟩ : ∃ r, r = tx (padL n l) := ⟨_, rfl⟩
  obtain ⟨r3, hr3⟩ : ∃ r, r = tx (padL (2 * n) (indP (List.replicate n 32) false l)) := ⟨_, rfl⟩
  obtain ⟨r4, hr4⟩ : ∃ r, r = wL l := ⟨_, rfl⟩
  rw [← hr1] at HIP
  rw [← hr2] at HPP
  rw [← hr3] at HIN
  rw [← hr4] at HBW
  have e1 : (r1.toList == r1.toList) = true := by simp
  have e2 : (r2.toList == r2.toList) = true := by simp
  have e3 : (r3.toList == r3.toList) = true := by simp
  have e4 : ((r4 : Int) == (r4 : Int)) = true := by simp
  have e5 : ((ByteArray.mk #[97, 32]).toList == (ByteArray.mk #[97, 32]).toList) = true := by simp
  have HTW : Hid (∀ j, s.extract 0 j = tx (l.take j) ∧ s.extract j s.size = tx (l.drop j)) := fun j => by
    rw [HSL.out]
    refine ⟨?_, tx_drop l j⟩
    rw [tx_cut, List.drop_zero, Nat.sub_zero]
  clear hr1 hr2 hr3 hr4 hparts hind hpad hfit hll
  go_wp2_with fail
  refine region_held_tail 13 (S := (fun _ => True)) (by kernel_rfl) (by kernel_rfl) ?_ (fun hHeld => ?_)
  · (try dsimp only); first | done | (trivial)
  refine HeldT.take (i := 0) (v := ?_) (by simp only [List.getElem?_toArray, List.getElem?_cons_succ, List.getElem?_cons_zero]; rfl) (by kernel_rfl) (by kernel_rfl) (by kernel_rfl) (by kernel_rfl) (by exact fun _ _ _ h => h) ?_ (by assumption) ?_
  rotate_left
  · refine Or.inl ⟨by rfl, ?_⟩
    (intro w hSw; (try dsimp only at hSw); go_simp; try with_reducible rfl)
  try simp only [Act.put, List.setIfInBounds_toArray, List.set_cons_zero, List.set_cons_succ]
  refine HeldT.take (i := 1) (v := ?_) (by simp only [List.getElem?_toArray, List.getElem?_cons_succ, List.getElem?_cons_zero]; rfl) (by kernel_rfl) (by kernel_rfl) (by kernel_rfl) (by kernel_rfl) (by exact fun _ _ _ h => h) ?_ (by assumption) ?_
  rotate_left
  · refine Or.inl ⟨by rfl, ?_⟩
    (intro w hSw; (try dsimp only at hSw); go_simp; try with_reducible rfl)
  try simp only [Act.put, List.setIfInBounds_toArray, List.set_cons_zero, List.set_cons_succ]
  refine HeldT.take (i := 2) (v := ?_) (by simp only [List.getElem?_toArray, List.getElem?_cons_succ, List.getElem?_cons_zero]; rfl) (by kernel_rfl) (by kernel_rfl) (by kernel_rfl) (by kernel_rfl) (by exact fun _ _ _ h => h) ?_ (by assumption) ?_
  rotate_left
  · refine Or.inl ⟨by rfl, ?_⟩
    (intro w hSw; (try dsimp only at hSw); go_simp; try with_reducible rfl)
  try simp only [Act.put, List.setIfInBounds_toArray, List.set_cons_zero, List.set_cons_succ]
  refine HeldT.take (i := 3) (v := ?_) (by simp only [List.getElem?_toArray, List.getElem?_cons_succ, List.getElem?_cons_zero]; rfl) (by kernel_rfl) (by kernel_rfl) (by kernel_rfl) (by kernel_rfl) (by exact fun _ _ _ h => h) ?_ (by assumption) ?_
  rotate_left
  · refine Or.inl ⟨by rfl, ?_⟩
    (intro w hSw; (try dsimp only at hSw); go_simp; try with_reducible rfl)
  try simp only [Act.put, List.setIfInBounds_toArray, List.set_cons_zero, List.set_cons_succ]
  refine HeldT.take (i := 4) (v := ?_) (by simp only [List.getElem?_toArray, List.getElem?_cons_succ, List.getElem?_cons_zero]; rfl) (by kernel_rfl) (by kernel_rfl) (by kernel_rfl) (by kernel_rfl) (by exact fun _ _ _ h => h) ?_ (by assumption) ?_
  rotate_left
  · refine Or.inl ⟨by rfl, ?_⟩
    (intro w hSw; (try dsimp only at hSw); go_simp; try with_reducible rfl)
  try simp only [Act.put, List.setIfInBounds_toArray, List.set_cons_zero, List.set_cons_succ]
  refine HeldT.take (i := 5) (v := ?_) (by simp only [List.getElem?_toArray, List.getElem?_cons_succ, List.getElem?_cons_zero]; rfl) (by kernel_rfl) (by kernel_rfl) (by kernel_rfl) (by kernel_rfl) (by exact fun _ _ _ h => h) ?_ (by assumption) ?_
  rotate_left
  · refine Or.inl ⟨by rfl, ?_⟩
    (intro w hSw; (try dsimp only at hSw); go_simp; try with_reducible rfl)
  try simp only [Act.put, List.setIfInBounds_toArray, List.set_cons_zero, List.set_cons_succ]
  refine HeldT.take (i := 6) (v := ?_) (by simp only [List.getElem?_toArray, List.getElem?_cons_succ, List.getElem?_cons_zero]; rfl) (by kernel_rfl) (by kernel_rfl) (by kernel_rfl) (by kernel_rfl) (by exact fun _ _ _ h => h) ?_ (by assumption) ?_
  rotate_left
  · refine Or.inl ⟨by rfl, ?_⟩
    (intro w hSw; (try dsimp only at hSw); go_simp; try with_reducible rfl)
  try simp only [Act.put, List.setIfInBounds_toArray, List.set_cons_zero, List.set_cons_succ]
  refine HeldT.take (i := 7) (v := ?_) (by simp only [List.getElem?_toArray, List.getElem?_cons_succ, List.getElem?_cons_zero]; rfl) (by kernel_rfl) (by kernel_rfl) (by kernel_rfl) (by kernel_rfl) (by exact fun _ _ _ h => h) ?_ (by assumption) ?_
  rotate_left
  · refine Or.inl ⟨by rfl, ?_⟩
    (intro w hSw; (try dsimp only at hSw); go_simp; try with_reducible rfl)
  try simp only [Act.put, List.setIfInBounds_toArray, List.set_cons_zero, List.set_cons_succ]
  refine HeldT.take (i := 8) (v := ?_) (by simp only [List.getElem?_toArray, List.getElem?_cons_succ, List.getElem?_cons_zero]; rfl) (by kernel_rfl) (by kernel_rfl) (by kernel_rfl) (by kernel_rfl) (by exact fun _ _ _ h => h) ?_ (by assumption) ?_
  rotate_left
  · refine Or.inl ⟨by rfl, ?_⟩
    (intro w hSw; (try dsimp only at hSw); go_simp; try with_reducible rfl)
  try simp only [Act.put, List.setIfInBounds_toArray, List.set_cons_zero, List.set_cons_succ]
  refine HeldT.take (i := 9) (v := ?_) (by simp only [List.getElem?_toArray, List.getElem?_cons_succ, List.getElem?_cons_zero]; rfl) (by kernel_rfl) (by kernel_rfl) (by kernel_rfl) (by kernel_rfl) (by exact fun _ _ _ h => h) ?_ (by assumption) ?_
  rotate_left
  · refine Or.inl ⟨by rfl, ?_⟩
    (intro w hSw; (try dsimp only at hSw); go_simp; try with_reducible rfl)
  try simp only [Act.put, List.setIfInBounds_toArray, List.set_cons_zero, List.set_cons_succ]
  refine HeldT.take (i := 10) (v := ?_) (by simp only [List.getElem?_toArray, List.getElem?_cons_succ, List.getElem?_cons_zero]; rfl) (by kernel_rfl) (by kernel_rfl) (by kernel_rfl) (by kernel_rfl) (by exact fun _ _ _ h => h) ?_ (by assumption) ?_
  rotate_left
  · refine Or.inl ⟨by rfl, ?_⟩
    (intro w hSw; (try dsimp only at hSw); go_simp; try with_reducible rfl)
  try simp only [Act.put, List.setIfInBounds_toArray, List.set_cons_zero, List.set_cons_succ]
  refine HeldT.take (i := 11) (v := ?_) (by simp only [List.getElem?_toArray, List.getElem?_cons_succ, List.getElem?_cons_zero]; rfl) (by kernel_rfl) (by kernel_rfl) (by kernel_rfl) (by kernel_rfl) (by exact fun _ _ _ h => h) ?_ (by assumption) ?_
  rotate_left
  · refine Or.inl ⟨by rfl, ?_⟩
    (intro w hSw; (try dsimp only at hSw); go_simp; try with_reducible rfl)
  try simp only [Act.put, List.setIfInBounds_toArray, List.set_cons_zero, List.set_cons_succ]
  refine HeldT.take (i := 12) (v := ?_) (by simp only [List.getElem?_toArray, List.getElem?_cons_succ, List.getElem?_cons_zero]; rfl) (by kernel_rfl) (by kernel_rfl) (by kernel_rfl) (by kernel_rfl) (by exact fun _ _ _ h => h) ?_ (by assumption) ?_
  rotate_left
  · refine Or.inl ⟨by rfl, ?_⟩
    (intro w hSw; (try dsimp only at hSw); go_simp; try with_reducible rfl)
  try simp only [Act.put, List.setIfInBounds_toArray, List.set_cons_zero, List.set_cons_succ]
  refine HeldT.tail (by kernel_rfl) rfl ?_
  go_wp2_with fail
  refine region_held_tail 15 (S := (fun _ => True)) (by kernel_rfl) (by kernel_rfl) ?_ (fun hHeld => ?_)
  · (try dsimp only); first | done | (trivial)
  refine HeldT.take (i := 0) (v := ?_) (by simp only [List.getElem?_toArray, List.getElem?_cons_succ, List.getElem?_cons_zero]; rfl) (by kernel_rfl) (by kernel_rfl) (by kernel_rfl) (by kernel_rfl) (by exact fun _ _ _ h => h) ?_ (by assumption) ?_
  rotate_left
  · refine Or.inl ⟨by rfl, ?_⟩
    (intro w hSw; (try dsimp only at hSw); go_simp; try with_reducible rfl)
  try simp only [Act.put, List.setIfInBounds_toArray, List.set_cons_zero, List.set_cons_succ]
  refine HeldT.take (i := 1) (v := ?_) (by simp only [List.getElem?_toArray, List.getElem?_cons_succ, List.getElem?_cons_zero]; rfl) (by kernel_rfl) (by kernel_rfl) (by kernel_rfl) (by kernel_rfl) (by exact fun _ _ _ h => h) ?_ (by assumption) ?_
  rotate_left
  · refine Or.inl ⟨by rfl, ?_⟩
    (intro w hSw; (try dsimp only at hSw); go_simp; try with_reducible rfl)
  try simp only [Act.put, List.setIfInBounds_toArray, List.set_cons_zero, List.set_cons_succ]
  refine HeldT.take (i := 2) (v := ?_) (by simp only [List.getElem?_toArray, List.getElem?_cons_succ, List.getElem?_cons_zero]; rfl) (by kernel_rfl) (by kernel_rfl) (by kernel_rfl) (by kernel_rfl) (by exact fun _ _ _ h => h) ?_ (by assumption) ?_
  rotate_left
  · refine Or.inl ⟨by rfl, ?_⟩
    (intro w hSw; (try dsimp only at hSw); go_simp; try with_reducible rfl)
  try simp only [Act.put, List.setIfInBounds_toArray, List.set_cons_zero, List.set_cons_succ]
  refine HeldT.take (i := 3) (v := ?_) (by simp only [List.getElem?_toArray, List.getElem?_cons_succ, List.getElem?_cons_zero]; rfl) (by kernel_rfl) (by kernel_rfl) (by kernel_rfl) (by kernel_rfl) (by exact fun _ _ _ h => h) ?_ (by assumption) ?_
  rotate_left
  · refine Or.inl ⟨by rfl, ?_⟩
    (intro w hSw; (try dsimp only at hSw); go_simp; try with_reducible rfl)
  try simp only [Act.put, List.setIfInBounds_toArray, List.set_cons_zero, List.set_cons_succ]
  refine HeldT.take (i := 4) (v := ?_) (by simp only [List.getElem?_toArray, List.getElem?_cons_succ, List.getElem?_cons_zero]; rfl) (by kernel_rfl) (by kernel_rfl) (by kernel_rfl) (by kernel_rfl) (by exact fun _ _ _ h => h) ?_ (by assumption) ?_
  rotate_left
  · refine Or.inl ⟨by rfl, ?_⟩
    (intro w hSw; (try dsimp only at hSw); go_simp; try with_reducible rfl)
  try simp only [Act.put, List.setIfInBounds_toArray, List.set_cons_zero, List.set_cons_succ]
  refine HeldT.take (i := 5) (v := ?_) (by simp only [List.getElem?_toArray, List.getElem?_cons_succ, List.getElem?_cons_zero]; rfl) (by kernel_rfl) (by kernel_rfl) (by kernel_rfl) (by kernel_rfl) (by exact fun _ _ _ h => h) ?_ (by assumption) ?_
  rotate_left
  · refine Or.inl ⟨by rfl, ?_⟩
    (intro w hSw; (try dsimp only at hSw); go_simp; try with_reducible rfl)
  try simp only [Act.put, List.setIfInBounds_toArray, List.set_cons_zero, List.set_cons_succ]
  refine HeldT.take (i := 7) (v := ?_) (by simp only [List.getElem?_toArray, List.getElem?_cons_succ, List.getElem?_cons_zero]; rfl) (by kernel_rfl) (by kernel_rfl) (by kernel_rfl) (by kernel_rfl) (by exact fun _ _ _ h => h) ?_ (by assumption) ?_
  rotate_left
  · refine Or.inl ⟨by rfl, ?_⟩
    (intro w hSw; (try dsimp only at hSw); go_simp; try with_reducible rfl)
  try simp only [Act.put, List.setIfInBounds_toArray, List.set_cons_zero, List.set_cons_succ]
  refine HeldT.take (i := 8) (v := ?_) (by simp only [List.getElem?_toArray, List.getElem?_cons_succ, List.getElem?_cons_zero]; rfl) (by kernel_rfl) (by kernel_rfl) (by kernel_rfl) (by kernel_rfl) (by exact fun _ _ _ h => h) ?_ (by assumption) ?_
  rotate_left
  · refine Or.inl ⟨by rfl, ?_⟩
    (intro w hSw; (try dsimp only at hSw); go_simp; try with_reducible rfl)
  try simp only [Act.put, List.setIfInBounds_toArray, List.set_cons_zero, List.set_cons_succ]
  refine HeldT.take (i := 9) (v := ?_) (by simp only [List.getElem?_toArray, List.getElem?_cons_succ, List.getElem?_cons_zero]; rfl) (by kernel_rfl) (by kernel_rfl) (by kernel_rfl) (by kernel_rfl) (by exact fun _ _ _ h => h) ?_ (by assumption) ?_
  rotate_left
  · refine Or.inl ⟨by rfl, ?_⟩
    (intro w hSw; (try dsimp only at hSw); go_simp; try with_reducible rfl)
  try simp only [Act.put, List.setIfInBounds_toArray, List.set_cons_zero, List.set_cons_succ]
  refine HeldT.take (i := 10) (v := ?_) (by simp only [List.getElem?_toArray, List.getElem?_cons_succ, List.getElem?_cons_zero]; rfl) (by kernel_rfl) (by kernel_rfl) (by kernel_rfl) (by kernel_rfl) (by exact fun _ _ _ h => h) ?_ (by assumption) ?_
  rotate_left
  · refine Or.inl ⟨by rfl, ?_⟩
    (intro w hSw; (try dsimp only at hSw); go_simp; try with_reducible rfl)
  try simp only [Act.put, List.setIfInBounds_toArray, List.set_cons_zero, List.set_cons_succ]
  refine HeldT.take (i := 11) (v := ?_) (by simp only [List.getElem?_toArray, List.getElem?_cons_succ, List.getElem?_cons_zero]; rfl) (by kernel_rfl) (by kernel_rfl) (by kernel_rfl) (by kernel_rfl) (by exact fun _ _ _ h => h) ?_ (by assumption) ?_
  rotate_left
  · refine Or.inl ⟨by rfl, ?_⟩
    (intro w hSw; (try dsimp only at hSw); go_simp; try with_reducible rfl)
  try simp only [Act.put, List.setIfInBounds_toArray, List.set_cons_zero, List.set_cons_succ]
  refine HeldT.take (i := 12) (v := ?_) (by simp only [List.getElem?_toArray, List.getElem?_cons_succ, List.getElem?_cons_zero]; rfl) (by kernel_rfl) (by kernel_rfl) (by kernel_rfl) (by kernel_rfl) (by exact fun _ _ _ h => h) ?_ (by assumption) ?_
  rotate_left
  · refine Or.inl ⟨by rfl, ?_⟩
    (intro w hSw; (try dsimp only at hSw); go_simp; try with_reducible rfl)
  try simp only [Act.put, List.setIfInBounds_toArray, List.set_cons_zero, List.set_cons_succ]
  refine HeldT.two (i := 6) (k := 13) (by simp only [List.getElem?_toArray, List.getElem?_cons_succ, List.getElem?_cons_zero]; rfl) (by simp only [List.getElem?_toArray, List.getElem?_cons_succ, List.getElem?_cons_zero]; rfl) (by kernel_rfl) (by kernel_rfl) (by kernel_rfl) (fun K hK => ?gA1) (fun K hK => ?gB1)
  case' gA1 =>
    go_simp
    refine hK.out _ _ ?_ (fun hHeld => ?_)
    · (try dsimp only); first | done | (trivial)
    clear hK K
    try simp only [Act.put, List.setIfInBounds_toArray, List.set_cons_zero, List.set_cons_succ]
    refine HeldT.two (i := 13) (k := 14) (by simp only [List.getElem?_toArray, List.getElem?_cons_succ, List.getElem?_cons_zero]; rfl) (by simp only [List.getElem?_toArray, List.getElem?_cons_succ, List.getElem?_cons_zero]; rfl) (by kernel_rfl) (by kernel_rfl) (by kernel_rfl) (fun K hK => ?gA2) (fun K hK => ?gB2)
    case' gA2 =>
      go_simp
      refine hK.out _ _ ?_ (fun hHeld => ?_)
      · (try dsimp only); first | done | (trivial)
      clear hK K
      try simp only [Act.put, List.setIfInBounds_toArray, List.set_cons_zero, List.set_cons_succ]
      refine HeldT.one (i := 14) (by simp only [List.getElem?_toArray, List.getElem?_cons_succ, List.getElem?_cons_zero]; rfl) (by kernel_rfl) (by kernel_rfl) (fun K hK => ?_)
      go_simp
      refine hK.out _ _ ?_ (fun hHeld => ?_)
      · (try dsimp only); first | done | (trivial)
      clear hK K
      try simp only [Act.put, List.setIfInBounds_toArray, List.set_cons_zero, List.set_cons_succ]
      refine HeldT.tail (by kernel_rfl) rfl ?_
    case' gB2 =>
      go_simp
      refine hK.out _ _ ?_ (fun hHeld => ?_)
      · (try dsimp only); first | done | (trivial)
      clear hK K
      try simp only [Act.put, List.setIfInBounds_toArray, List.set_cons_zero, List.set_cons_succ]
      refine HeldT.one (i := 13) (by simp only [List.getElem?_toArray, List.getElem?_cons_succ, List.getElem?_cons_zero]; rfl) (by kernel_rfl) (by kernel_rfl) (fun K hK => ?_)
      go_simp
      refine hK.out _ _ ?_ (fun hHeld => ?_)
      · (try dsimp only); first | done | (trivial)
      clear hK K
      try simp only [Act.put, List.setIfInBounds_toArray, List.set_cons_zero, List.set_cons_succ]
      refine HeldT.tail (by kernel_rfl) rfl ?_
  case' gB1 =>
    go_simp
    refine hK.out _ _ ?_ (fun hHeld => ?_)
    · (try dsimp only); first | done | (trivial)
    clear hK K
    try simp only [Act.put, List.setIfInBounds_toArray, List.set_cons_zero, List.set_cons_succ]
    refine HeldT.one (i := 6) (by simp only [List.getElem?_toArray, List.getElem?_cons_succ, List.getElem?_cons_zero]; rfl) (by kernel_rfl) (by kernel_rfl) (fun K hK => ?_)
    go_simp
    refine hK.out _ _ ?_ (fun hHeld => ?_)
    · (try dsimp only); first | done | (trivial)
    clear hK K
    try simp only [Act.put, List.setIfInBounds_toArray, List.set_cons_zero, List.set_cons_succ]
    refine HeldT.one (i := 14) (by simp only [List.getElem?_toArray, List.getElem?_cons_succ, List.getElem?_cons_zero]; rfl) (by kernel_rfl) (by kernel_rfl) (fun K hK => ?_)
    go_simp
    refine hK.out _ _ ?_ (fun hHeld => ?_)
    · (try dsimp only); first | done | (trivial)
    clear hK K
    try simp only [Act.put, List.setIfInBounds_toArray, List.set_cons_zero, List.set_cons_succ]
    refine HeldT.tail (by kernel_rfl) rfl ?_
  · have hpa := two_pa w (l.take k) (l.drop k) (l.take i) (l.drop i)
    rw [← (HTW.out k).1, ← (HTW.out k).2, ← (HTW.out i).1, ← (HTW.out i).2] at hpa
    obtain ⟨W, hW⟩ : ∃ W, W = ((w.alloc (.cells #[.string (s.extract 0 k), .string (s.extract k s.size)] 9)).alloc (.cells #[.string (s.extract 0 i), .string (s.extract i s.size)] 9)).drew.drew := ⟨_, rfl⟩
    rw [← hW] at hpa ⊢
    have HX : Hid (∀ V, Below W.heap.size W V → PA V (w.heap.size + 1) [l.take i, l.drop i]) := fun V hV => hpa.2.1.below hV
    have HY : Hid (∀ V, Below W.heap.size W V → PA V (w.heap.size) [l.take k, l.drop k]) := fun V hV => hpa.1.below hV
    have HB : Hid (Below w.heap.size w W) := hpa.2.2
    have B0 : Hid (Below W.heap.size W W) := Below.refl _ _
    clear hpa hW
    go_wp2_with fail
    refine (HIP.out (w.heap.size + 1) (l.take i) (l.drop i) _ (HX.out _ B0.out) (List.take_append_drop i l)).mono ?_
    rintro e v1 ⟨rfl, bb⟩
    have B1 : Hid (Below W.heap.size W v1) := B0.out.trans (bb.mono B0.out.size)
    clear bb
    go_wp2_with fail
    refine (HIP.out (w.heap.size) (l.take k) (l.drop k) _ (HY.out _ B1.out) (List.take_append_drop k l)).mono ?_
    rintro e v2 ⟨rfl, bb⟩
    have B2 : Hid (Below W.heap.size W v2) := B1.out.trans (bb.mono B1.out.size)
    clear bb
    go_wp2_with fail
    refine (HPP.out (w.heap.size + 1) (l.take i) (l.drop i) _ (HX.out _ B2.out) (List.take_append_drop i l)).mono ?_
    rintro e v3 ⟨rfl, bb⟩
    have B3 : Hid (Below W.heap.size W v3) := B2.out.trans (bb.mono B2.out.size)
    clear bb
    go_wp2_with fail
    refine (HPP.out (w.heap.size) (l.take k) (l.drop k) _ (HY.out _ B3.out) (List.take_append_drop k l)).mono ?_
    rintro e v4 ⟨rfl, bb⟩
    have B4 : Hid (Below W.heap.size W v4) := B3.out.trans (bb.mono B3.out.size)
    clear bb
    go_wp2_with fail
    refine (HBW.out (w.heap.size + 1) (l.take i) (l.drop i) _ (HX.out _ B4.out) (List.take_append_drop i l)).mono ?_
    rintro e v5 ⟨rfl, bb⟩
    have B5 : Hid (Below W.heap.size W v5) := B4.out.trans (bb.mono B4.out.size)
    clear bb
    go_wp2_with fail
    refine (HBW.out (w.heap.size) (l.take k) (l.drop k) _ (HY.out _ B5.out) (List.take_append_drop k l)).mono ?_
    rintro e v6 ⟨rfl, bb⟩
    have B6 : Hid (Below W.heap.size W v6) := B5.out.trans (bb.mono B5.out.size)
    clear bb
    go_wp2_with fail
    refine (HIN.out (w.heap.size + 1) (l.take i) (l.drop i) _ (HX.out _ B6.out) (List.take_append_drop i l)).mono ?_
    rintro e v7 ⟨rfl, bb⟩
    have B7 : Hid (Below W.heap.size W v7) := B6.out.trans (bb.mono B6.out.size)
    clear bb
    go_wp2_with fail
    refine (HIN.out (w.heap.size) (l.take k) (l.drop k) _ (HY.out _ B7.out) (List.take_append_drop k l)).mono ?_
    rintro e v8 ⟨rfl, bb⟩
    have B8 : Hid (Below W.heap.size W v8) := B7.out.trans (bb.mono B7.out.size)
    clear bb
    have HONE : Hid (PA (v8.alloc (.cells #[.string ⟨#[97]⟩] 9)) v8.heap.size [[97]]) := one_pa v8 [97]
    have HBA : Hid (Below v8.heap.size v8 (v8.alloc (.cells #[.string ⟨#[97]⟩] 9))) := (Below.refl _ _).alloc (Nat.le_refl _) _
    go_wp2_with fail
    refine (HD.out _ _ HONE.out).mono ?_
    rintro e v9 ⟨rfl, bb⟩
    have B9 : Hid (Below w.heap.size w v9) := (HB.out.trans (B8.out.mono HB.out.size)).trans ((HBA.out.trans (bb.mono HBA.out.size)).mono (Nat.le_trans HB.out.size B8.out.size))
    clear bb
    go_wp2_with fail
    go_returns
    exact ⟨rfl, B9.out⟩
  · have hpa := two_pa w (l.take i) (l.drop i) (l.take k) (l.drop k)
    rw [← (HTW.out i).1, ← (HTW.out i).2, ← (HTW.out k).1, ← (HTW.out k).2] at hpa
    obtain ⟨W, hW⟩ : ∃ W, W = ((w.alloc (.cells #[.string (s.extract 0 i), .string (s.extract i s.size)] 9)).alloc (.cells #[.string (s.extract 0 k), .string (s.extract k s.size)] 9)).drew.drew := ⟨_, rfl⟩
    rw [← hW] at hpa ⊢
    have HX : Hid (∀ V, Below W.heap.size W V → PA V (w.heap.size) [l.take i, l.drop i]) := fun V hV => hpa.1.below hV
    have HY : Hid (∀ V, Below W.heap.size W V → PA V (w.heap.size + 1) [l.take k, l.drop k]) := fun V hV => hpa.2.1.below hV
    have HB : Hid (Below w.heap.size w W) := hpa.2.2
    have B0 : Hid (Below W.heap.size W W) := Below.refl _ _
    clear hpa hW
    go_wp2_with fail
    refine (HIP.out (w.heap.size) (l.take i) (l.drop i) _ (HX.out _ B0.out) (List.take_append_drop i l)).mono ?_
    rintro e v1 ⟨rfl, bb⟩
    have B1 : Hid (Below W.heap.size W v1) := B0.out.trans (bb.mono B0.out.size)
    clear bb
    go_wp2_with fail
    refine (HIP.out (w.heap.size + 1) (l.take k) (l.drop k) _ (HY.out _ B1.out) (List.take_append_drop k l)).mono ?_
    rintro e v2 ⟨rfl, bb⟩
    have B2 : Hid (Below W.heap.size W v2) := B1.out.trans (bb.mono B1.out.size)
    clear bb
    go_wp2_with fail
    refine (HPP.out (w.heap.size) (l.take i) (l.drop i) _ (HX.out _ B2.out) (List.take_append_drop i l)).mono ?_
    rintro e v3 ⟨rfl, bb⟩
    have B3 : Hid (Below W.heap.size W v3) := B2.out.trans (bb.mono B2.out.size)
    clear bb
    go_wp2_with fail
    refine (HPP.out (w.heap.size + 1) (l.take k) (l.drop k) _ (HY.out _ B3.out) (List.take_append_drop k l)).mono ?_
    rintro e v4 ⟨rfl, bb⟩
    have B4 : Hid (Below W.heap.size W v4) := B3.out.trans (bb.mono B3.out.size)
    clear bb
    go_wp2_with fail
    refine (HBW.out (w.heap.size) (l.take i) (l.drop i) _ (HX.out _ B4.out) (List.take_append_drop i l)).mono ?_
    rintro e v5 ⟨rfl, bb⟩
    have B5 : Hid (Below W.heap.size W v5) := B4.out.trans (bb.mono B4.out.size)
    clear bb
    go_wp2_with fail
    refine (HBW.out (w.heap.size + 1) (l.take k) (l.drop k) _ (HY.out _ B5.out) (List.take_append_drop k l)).mono ?_
    rintro e v6 ⟨rfl, bb⟩
    have B6 : Hid (Below W.heap.size W v6) := B5.out.trans (bb.mono B5.out.size)
    clear bb
    go_wp2_with fail
    refine (HIN.out (w.heap.size) (l.take i) (l.drop i) _ (HX.out _ B6.out) (List.take_append_drop i l)).mono ?_
    rintro e v7 ⟨rfl, bb⟩
    have B7 : Hid (Below W.heap.size W v7) := B6.out.trans (bb.mono B6.out.size)
    clear bb
    go_wp2_with fail
    refine (HIN.out (w.heap.size + 1) (l.take k) (l.drop k) _ (HY.out _ B7.out) (List.take_append_drop k l)).mono ?_
    rintro e v8 ⟨rfl, bb⟩
    have B8 : Hid (Below W.heap.size W v8) := B7.out.trans (bb.mono B7.out.size)
    clear bb
    have HONE : Hid (PA (v8.alloc (.cells #[.string ⟨#[97]⟩] 9)) v8.heap.size [[97]]) := one_pa v8 [97]
    have HBA : Hid (Below v8.heap.size v8 (v8.alloc (.cells #[.string ⟨#[97]⟩] 9))) := (Below.refl _ _).alloc (Nat.le_refl _) _
    go_wp2_with fail
    refine (HD.out _ _ HONE.out).mono ?_
    rintro e v9 ⟨rfl, bb⟩
    have B9 : Hid (Below w.heap.size w v9) := (HB.out.trans (B8.out.mono HB.out.size)).trans ((HBA.out.trans (bb.mono HBA.out.size)).mono (Nat.le_trans HB.out.size B8.out.size))
    clear bb
    go_wp2_with fail
    go_returns
    exact ⟨rfl, B9.out⟩
  · have hpa := two_pa w (l.take i) (l.drop i) (l.take k) (l.drop k)
    rw [← (HTW.out i).1, ← (HTW.out i).2, ← (HTW.out k).1, ← (HTW.out k).2] at hpa
    obtain ⟨W, hW⟩ : ∃ W, W = ((w.alloc (.cells #[.string (s.extract 0 i), .string (s.extract i s.size)] 9)).alloc (.cells #[.string (s.extract 0 k), .string (s.extract k s.size)] 9)).drew.drew := ⟨_, rfl⟩
    rw [← hW] at hpa ⊢
    have HX : Hid (∀ V, Below W.heap.size W V → PA V (w.heap.size) [l.take i, l.drop i]) := fun V hV => hpa.1.below hV
    have HY : Hid (∀ V, Below W.heap.size W V → PA V (w.heap.size + 1) [l.take k, l.drop k]) := fun V hV => hpa.2.1.below hV
    have HB : Hid (Below w.heap.size w W) := hpa.2.2
    have B0 : Hid (Below W.heap.size W W) := Below.refl _ _
    clear hpa hW
    go_wp2_with fail
    refine (HIP.out (w.heap.size) (l.take i) (l.drop i) _ (HX.out _ B0.out) (List.take_append_drop i l)).mono ?_
    rintro e v1 ⟨rfl, bb⟩
    have B1 : Hid (Below W.heap.size W v1) := B0.out.trans (bb.mono B0.out.size)
    clear bb
    go_wp2_with fail
    refine (HIP.out (w.heap.size + 1) (l.take k) (l.drop k) _ (HY.out _ B1.out) (List.take_append_drop k l)).mono ?_
    rintro e v2 ⟨rfl, bb⟩
    have B2 : Hid (Below W.heap.size W v2) := B1.out.trans (bb.mono B1.out.size)
    clear bb
    go_wp2_with fail
    refine (HPP.out (w.heap.size) (l.take i) (l.drop i) _ (HX.out _ B2.out) (List.take_append_drop i l)).mono ?_
    rintro e v3 ⟨rfl, bb⟩
    have B3 : Hid (Below W.heap.size W v3) := B2.out.trans (bb.mono B2.out.size)
    clear bb
    go_wp2_with fail
    refine (HPP.out (w.heap.size + 1) (l.take k) (l.drop k) _ (HY.out _ B3.out) (List.take_append_drop k l)).mono ?_
    rintro e v4 ⟨rfl, bb⟩
    have B4 : Hid (Below W.heap.size W v4) := B3.out.trans (bb.mono B3.out.size)
    clear bb
    go_wp2_with fail
    refine (HBW.out (w.heap.size) (l.take i) (l.drop i) _ (HX.out _ B4.out) (List.take_append_drop i l)).mono ?_
    rintro e v5 ⟨rfl, bb⟩
    have B5 : Hid (Below W.heap.size W v5) := B4.out.trans (bb.mono B4.out.size)
    clear bb
    go_wp2_with fail
    refine (HBW.out (w.heap.size + 1) (l.take k) (l.drop k) _ (HY.out _ B5.out) (List.take_append_drop k l)).mono ?_
    rintro e v6 ⟨rfl, bb⟩
    have B6 : Hid (Below W.heap.size W v6) := B5.out.trans (bb.mono B5.out.size)
    clear bb
    go_wp2_with fail
    refine (HIN.out (w.heap.size) (l.take i) (l.drop i) _ (HX.out _ B6.out) (List.take_append_drop i l)).mono ?_
    rintro e v7 ⟨rfl, bb⟩
    have B7 : Hid (Below W.heap.size W v7) := B6.out.trans (bb.mono B6.out.size)
    clear bb
    go_wp2_with fail
    refine (HIN.out (w.heap.size + 1) (l.take k) (l.drop k) _ (HY.out _ B7.out) (List.take_append_drop k l)).mono ?_
    rintro e v8 ⟨rfl, bb⟩
    have B8 : Hid (Below W.heap.size W v8) := B7.out.trans (bb.mono B7.out.size)
    clear bb
    have HONE : Hid (PA (v8.alloc (.cells #[.string ⟨#[97]⟩] 9)) v8.heap.size [[97]]) := one_pa v8 [97]
    have HBA : Hid (Below v8.heap.size v8 (v8.alloc (.cells #[.string ⟨#[97]⟩] 9))) := (Below.refl _ _).alloc (Nat.le_refl _) _
    go_wp2_with fail
    refine (HD.out _ _ HONE.out).mono ?_
    rintro e v9 ⟨rfl, bb⟩
    have B9 : Hid (Below w.heap.size w v9) := (HB.out.trans (B8.out.mono HB.out.size)).trans ((HBA.out.trans (bb.mono HBA.out.size)).mono (Nat.le_trans HB.out.size B8.out.size))
    clear bb
    go_wp2_with fail
    go_returns
    exact ⟨rfl, B9.out⟩
end fnPartsCut
end Go.Proofs.YtbibokkclejapaaDoor
