/- Buffer.String; impl.IndentedBy; spec.times, spec.IndentedBy. -/
import Derived.Test.YtbibokkclejapaaDoorIndBy
import Derived.Test.YtbibokkclejapaaDoorIndRows
namespace Go.Proofs.YtbibokkclejapaaDoor
open Go.RowKit
set_option linter.unusedVariables false
set_option linter.unusedSimpArgs false
variable {X : Nat → Prop}

set_option maxRecDepth 100000 in
theorem buf_string (b q : Nat) (A : Option Addr) (cap : Nat) (l : List UInt8) (w : World) (h : BA w b q A cap l) : Calls Tryd.prog 40 #[.pointer (some ⟨b, q, none⟩)] w fun e w' => e = .returned (.string (tx l)) ∧ w' = w.drew := by
  have c0 := h.c0
  have c1 := h.c1
  have hz := lt_of_cell h.c0
  have hcv := h.text.2 w.drew (Below.refl _ _).drew
  have hall := all_run A l.length cap
  obtain ⟨m, hm⟩ : ∃ m, m = l.length := ⟨_, rfl⟩
  obtain ⟨s, hs⟩ : ∃ s, s = tx l := ⟨_, rfl⟩
  rw [← hm] at c0 hall hcv
  rw [← hs] at hcv ⊢
  clear h hm hs
  go_enter Tryd.func40, Tryd.ntmps40
  go_wp2_with fail
  refine region_held_tail 10 (S := (fun w' => w'.cell? ⟨b, q, none⟩ = some (.slice A m cap) ∧ w'.cell? ⟨b, q + 1, none⟩ = some (.int .i64 0) ∧ (convert 51 9 (.slice A m cap)).run Tryd.prog w' = .ok (.string s) w')) (by kernel_rfl) (by kernel_rfl) ?_ (fun hHeld => ?_)
  · (try dsimp only); first | done | (exact ⟨c0, c1, hcv⟩)
  refine HeldT.take (i := 0) (v := ?_) (by simp only [List.getElem?_toArray, List.getElem?_cons_succ, List.getElem?_cons_zero]; rfl) (by kernel_rfl) (by kernel_rfl) (by kernel_rfl) (by kernel_rfl) (by exact fun _ _ _ h => h) ?_ (by assumption) ?_
  rotate_left
  · refine Or.inl ⟨by rfl, ?_⟩
    (intro w hSw; (try dsimp only at hSw); go_simp; try with_reducible rfl)
  try simp only [Act.put, List.setIfInBounds_toArray, List.set_cons_zero, List.set_cons_succ]
  refine HeldT.take (i := 1) (v := ?_) (by simp only [List.getElem?_toArray, List.getElem?_cons_succ, List.getElem?_cons_zero]; rfl) (by kernel_rfl) (by kernel_rfl) (by kernel_rfl) (by kernel_rfl) (by exact fun _ _ _ h => h) ?_ (by assumption) ?_
  rotate_left
  · refine Or.inl ⟨by rfl, ?_⟩
    (intro w hSw; (try dsimp only at hSw); go_simp; try with_reducible rfl)
  try simp only [Act.put, List.setIfInBounds_toArray, List.set_cons_zero, List.set_cons_succ]
  refine HeldT.take (i := 2) (v := ?_) (by simp only [List.getElem?_toArray, List.getElem?_cons_succ, List.getElem?_cons_zero]; rfl) (by kernel_rfl) (by kernel_rfl) (by kernel_rfl) (by kernel_rfl) (by exact fun _ _ _ h => h) ?_ (by assumption) ?_
  rotate_left
  · refine Or.inl ⟨by rfl, ?_⟩
    (intro w hSw; (try dsimp only at hSw); go_simp; try with_reducible rfl)
  try simp only [Act.put, List.setIfInBounds_toArray, List.set_cons_zero, List.set_cons_succ]
  refine HeldT.take (i := 3) (v := ?_) (by simp only [List.getElem?_toArray, List.getElem?_cons_succ, List.getElem?_cons_zero]; rfl) (by kernel_rfl) (by kernel_rfl) (by kernel_rfl) (by kernel_rfl) (by exact fun _ _ _ h => h) ?_ (by assumption) ?_
  rotate_left
  · refine Or.inl ⟨by rfl, ?_⟩
    (intro w hSw; (try dsimp only at hSw); go_simp; try with_reducible rfl)
  try simp only [Act.put, List.setIfInBounds_toArray, List.set_cons_zero, List.set_cons_succ]
  refine HeldT.take (i := 4) (v := ?_) (by simp only [List.getElem?_toArray, List.getElem?_cons_succ, List.getElem?_cons_zero]; rfl) (by kernel_rfl) (by kernel_rfl) (by kernel_rfl) (by kernel_rfl) (by exact fun _ _ _ h => h) ?_ (by assumption) ?_
  rotate_left
  · refine Or.inl ⟨by rfl, ?_⟩
    (intro w hSw; (try dsimp only at hSw); go_simp; try with_reducible rfl)
  try simp only [Act.put, List.setIfInBounds_toArray, List.set_cons_zero, List.set_cons_succ]
  refine HeldT.take (i := 5) (v := ?_) (by simp only [List.getElem?_toArray, List.getElem?_cons_succ, List.getElem?_cons_zero]; rfl) (by kernel_rfl) (by kernel_rfl) (by kernel_rfl) (by kernel_rfl) (by exact fun _ _ _ h => h) ?_ (by assumption) ?_
  rotate_left
  · refine Or.inl ⟨by rfl, ?_⟩
    (intro w hSw; (try dsimp only at hSw); go_simp; try with_reducible rfl)
  try simp only [Act.put, List.setIfInBounds_toArray, List.set_cons_zero, List.set_cons_succ]
  refine HeldT.take (i := 6) (v := ?_) (by simp only [List.getElem?_toArray, List.getElem?_cons_succ, List.getElem?_cons_zero]; rfl) (by kernel_rfl) (by kernel_rfl) (by kernel_rfl) (by kernel_rfl) (by exact fun _ _ _ h => h) ?_ (by assumption) ?_
  rotate_left
  · refine Or.inl ⟨by rfl, ?_⟩
    (intro w hSw; (try dsimp only at hSw); go_simp; try with_reducible rfl)
  try simp only [Act.put, List.setIfInBounds_toArray, List.set_cons_zero, List.set_cons_succ]
  refine HeldT.take (i := 7) (v := ?_) (by simp only [List.getElem?_toArray, List.getElem?_cons_succ, List.getElem?_cons_zero]; rfl) (by kernel_rfl) (by kernel_rfl) (by kernel_rfl) (by kernel_rfl) (by exact fun _ _ _ h => h) ?_ (by assumption) ?_
  rotate_left
  · refine Or.inl ⟨by rfl, ?_⟩
    (intro w hSw; (try dsimp only at hSw); go_simp; try with_reducible rfl)
  try simp only [Act.put, List.setIfInBounds_toArray, List.set_cons_zero, List.set_cons_succ]
  refine HeldT.take (i := 8) (v := ?_) (by simp only [List.getElem?_toArray, List.getElem?_cons_succ, List.getElem?_cons_zero]; rfl) (by kernel_rfl) (by kernel_rfl) (by kernel_rfl) (by kernel_rfl) (by exact fun _ _ _ h => h) ?_ (by assumption) ?_
  rotate_left
  · refine Or.inl ⟨by rfl, ?_⟩
    (intro w hSw; (try dsimp only at hSw); go_simp; try with_reducible rfl)
  try simp only [Act.put, List.setIfInBounds_toArray, List.set_cons_zero, List.set_cons_succ]
  refine HeldT.take (i := 9) (v := ?_) (by simp only [List.getElem?_toArray, List.getElem?_cons_succ, List.getElem?_cons_zero]; rfl) (by kernel_rfl) (by kernel_rfl) (by kernel_rfl) (by kernel_rfl) (by exact fun _ _ _ h => h) ?_ (by assumption) ?_
  rotate_left
  · refine Or.inl ⟨by rfl, ?_⟩
    (intro w hSw; (try dsimp only at hSw); go_simp; try with_reducible rfl)
  try simp only [Act.put, List.setIfInBounds_toArray, List.set_cons_zero, List.set_cons_succ]
  refine HeldT.tail (by kernel_rfl) rfl ?_
  go_wp2_with fail
  go_returns
  exact ⟨rfl, rfl⟩

theorem iw_string (B ab b n : Nat) (fn : Value) (l : List UInt8) (sk : Bool) (w : World) (h : IW X B b ab b 3 n fn w l sk) : Calls Tryd.prog 35 #[.pointer (some ⟨b, 0, none⟩)] w fun e w' => e = .returned (.string (tx l)) ∧ w' = w.drew := by
  obtain ⟨A, R, hs⟩ := h.sw
  obtain ⟨cap, hb⟩ := hs.buf
  have HB := Go.Lib.hid (buf_string b 3 A cap l w hb)
  have hz := h.lt.1
  have c0 := h.c0
  clear h hs hb
  go_enter Tryd.func35, Tryd.ntmps35
  go_wp2_with fail
  refine HB.out.mono ?_
  rintro e w1 ⟨rfl, rfl⟩
  go_wp2_with fail
  go_returns
  exact ⟨rfl, rfl⟩

set_option maxHeartbeats 800000 in
theorem newWriter_by (n : Int) (g : Nat) (w : World) : Calls Tryd.prog 32 #[.int .u64 n, .func (.func 51) #[] #[.pointer (some ⟨g, 0, none⟩)]] w fun e w' => e = .returned (.pointer (some ⟨w.heap.size, 0, none⟩)) ∧ w' = (w.alloc (.cells (iwCells n (.func (.func 51) #[] #[.pointer (some ⟨g, 0, none⟩)]) (w.heap.size + 1)) 71)).alloc (.cells (awCells w.heap.size) 75) := by
  go_enter Tryd.func32, Tryd.ntmps32
  go_wp2_with fail
  go_returns
  exact ⟨rfl, rfl⟩
theorem by_any (s : ByteArray) (w : World) : Calls Tryd.prog 33 #[.string s] w fun e w' => e = .returned (.func (.func 51) #[] #[.pointer (some ⟨w.heap.size, 0, none⟩)]) ∧ w' = w.alloc (.cells #[.string s] 9) := by
  go_enter Tryd.func33, Tryd.ntmps33
  go_wp2_with fail
  go_returns
  exact ⟨rfl, rfl⟩

set_option maxHeartbeats 800000 in
theorem indentedBy_any (n : Nat) (l bl : List UInt8) (w : World) (hp : ∀ c ∈ l, c.toNat < 128 ∧ c.toNat ≠ 27) (hpb : ∀ c ∈ bl, c.toNat < 128 ∧ c.toNat ≠ 27) (hn : n ≤ 1000) (hl : (indP (rep bl n) false l).length + (rep bl n).length ≤ 900000) (hll : l.length ≤ 900000) :
    Calls Tryd.prog 15 #[.string (tx l), .int .u64 (n : Nat), .string (tx bl)] w fun e w' => e = .returned (.string (tx (indP (rep bl n) false l))) ∧ Below w.heap.size w w' := by
  have HBY := Go.Lib.hid (by_any (tx bl) w)
  have hcg : (w.alloc (.cells #[.string (tx bl)] 9)).cell? ⟨w.heap.size, 0, none⟩ = some (.string (tx bl)) := by simp [go_sem]
  have b1 : Below w.heap.size w (w.alloc (.cells #[.string (tx bl)] 9)) := (Below.refl _ _).alloc (Nat.le_refl _) _
  have z1 : w.heap.size < (w.alloc (.cells #[.string (tx bl)] 9)).heap.size := by simp
  obtain ⟨w1, hw1⟩ : ∃ w1, w1 = w.alloc (.cells #[.string (tx bl)] 9) := ⟨_, rfl⟩
  rw [← hw1] at hcg b1 z1 HBY
  obtain ⟨g, hg⟩ : ∃ g, g = w.heap.size := ⟨_, rfl⟩
  obtain ⟨fn, hfn⟩ : ∃ fn, fn = Value.func (.func 51) #[] #[.pointer (some ⟨g, 0, none⟩)] := ⟨_, rfl⟩
  rw [← hg] at hcg z1 HBY
  have HN := Go.Lib.hid (newWriter_by (n : Nat) g w1)
  rw [← hfn] at HBY HN
  obtain ⟨W, hW⟩ : ∃ W, W = (w1.alloc (.cells (iwCells (n : Nat) fn (w1.heap.size + 1)) 71)).alloc (.cells (awCells w1.heap.size) 75) := ⟨_, rfl⟩
  have b2 := start_below n fn w1
  have hi := IW.start (X := fun _ => False) n fn w1 (fun _ h => h.elim)
  rw [← hW] at b2 hi HN
  obtain ⟨c, W3, hcv, b3, ht⟩ := made_tx l W
  have HI := hi.below b3
  rw [hfn] at HI
  have HW := Go.Lib.hid (iw_by _ _ _ _ _ n g [] l bl false (some ⟨W.heap.size, 0, none⟩) c W3 HI hn ht hp (by simpa using hl) hll z1 (((b2.trans (b3.mono b2.size)).cell (p := ⟨g, 0, none⟩) z1).trans hcg) hpb)
  have BB : Hid (Below w.heap.size w W3) := b1.trans ((b2.mono b1.size).trans (b3.mono (Nat.le_trans b1.size b2.size)))
  have HZ := Go.Lib.hid b1.size
  obtain ⟨m, hm⟩ : ∃ m, m = l.length := ⟨_, rfl⟩
  obtain ⟨s, hs⟩ : ∃ s, s = tx l := ⟨_, rfl⟩
  obtain ⟨t, hts⟩ : ∃ t, t = tx bl := ⟨_, rfl⟩
  obtain ⟨r, hr⟩ : ∃ r, r = tx (indP (rep bl n) false l) := ⟨_, rfl⟩
  rw [← hm] at HW hcv
  rw [← hs] at hcv ⊢
  rw [← hts] at HBY ⊢
  rw [← hr]
  have HR := Go.Lib.hid hr
  clear ht hp hl hll hpb hW b1 b2 hi b3 HI hm hs hts hr hcg z1 hg hw1 hfn
  go_enter Tryd.func15, Tryd.ntmps15
  go_wp2_with fail
  refine HBY.out.mono ?_
  rintro e w2 ⟨rfl, rfl⟩
  go_wp2_with fail
  refine HN.out.mono ?_
  rintro e w4 ⟨rfl, rfl⟩
  go_wp2_with fail
  refine HW.out.mono ?_
  rintro e w5 ⟨rfl, i5, o5⟩
  have B5 := Go.Lib.hid (BB.out.trans (o5.below.mono HZ.out))
  have HY := Go.Lib.hid (iw_string _ _ _ _ _ _ _ w5 i5)
  clear i5 o5
  go_wp2_with fail
  refine HY.out.mono ?_
  rintro e w6 ⟨rfl, rfl⟩
  go_wp2_with fail
  go_returns
  refine ⟨?_, B5.out.drew⟩
  rw [HR.out]
  rfl
end Go.Proofs.YtbibokkclejapaaDoor
