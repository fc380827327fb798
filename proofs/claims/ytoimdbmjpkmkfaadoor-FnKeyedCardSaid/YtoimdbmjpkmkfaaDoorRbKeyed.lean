/- Keyed: a script of steps over an empty line. -/
import Derived.Test.YtoimdbmjpkmkfaaDoorRbScript
namespace Go.Proofs.YtoimdbmjpkmkfaaDoor
open Go.RowKit
set_option linter.unusedVariables false
set_option linter.unusedSimpArgs false

theorem conv_copy (W : World) (G : Nat) (l : List Int) (hc : ∀ (j : Nat) (v : Int), l[j]? = some v → W.cell? ⟨G, j, none⟩ = some (.int .i32 v)) :
    (convert 38 9 (.slice (some ⟨G, 0, none⟩) l.length l.length)).run Tryd.prog W = .ok (.string (runesBytes l)) W := by
  have := run_convert_runes (P := Tryd.prog) W 38 9 21 ⟨G, 0, none⟩ l.length l.length l (Nat.le_refl _) Tryd.underlying38 Tryd.underlying21 Tryd.underlying9 (fun j hj => by
    have e : (⟨G, 0, none⟩ : Addr).add j = ⟨G, j, none⟩ := by
      unfold Addr.add
      by_cases e : j = 0
      · rw [if_pos e, e]
      · rw [if_neg e, Nat.zero_add]
    rw [e]
    exact hc j _ (by simp [List.getD, List.getElem?_eq_getElem hj]))
  rwa [List.take_of_length_le (Nat.le_refl _)] at this

theorem ni_at (w : World) (k : Nat) (hk : k = w.heap.size) {cur : Array Value} {t : TypeId} (ht : t ≠ 21) : ¬ I32 (w.alloc (.cells cur t)) k := by
  subst hk; exact not_i32 (heap_alloc_new w _) ht
theorem ni_old {w : World} {o : Obj} {k : Nat} (h : ¬ I32 w k) (hk : k < w.heap.size) : ¬ I32 (w.alloc o) k := fun h' => h (h'.of (Below.heap_alloc _ _ _ hk).symm)

def KeyedPost (l' : List Int) (k' : Nat) (ts : List Int) (w : World) (e : Ending) (w' : World) : Prop :=
  ∃ v, e = .returned (.tuple #[.agg #[.string (runesBytes l'), .int .i64 (k' : Nat)], v, .bool true]) ∧ w'.ownsRow w.heap.size 3 1 v ts.length (ints ts) ∧ Below w.heap.size w w'

set_option maxRecDepth 100000 in
set_option maxHeartbeats 4000000 in
theorem keyed_any (b off cap : Nat) (es : List Ky) (ts l' kept' : List Int) (k' : Nat) (w : World) (hbl : b < w.heap.size) (he : KysAt w b off es) (hc : Chain es [] 0 [] ts l' k' kept') (hn : es.length ≤ 2147483647) (hl : l'.length ≤ 100000) :
    Calls Tryd.prog 10 #[.slice (some ⟨b, off, none⟩) es.length cap] w (KeyedPost l' k' ts w) := by
  have hmf : ∀ (fn : Fn) (first cap : Array Value) (w : World), (Instr.makeFunc fn first cap).run Tryd.prog w = .ok (.func fn first cap) w := fun _ _ _ _ => rfl
  have HE := Go.Lib.hid he
  have HC := Go.Lib.hid hc
  clear he hc
  go_enter Tryd.func10, Tryd.ntmps10
  go_wp2_with fail
  have b6 : ∀ W : World, Below w.heap.size w W → W.heap[b]? = w.heap[b]? := fun W h => h.block b hbl
  refine (caught_script w.heap.size (w.heap.size + 1 + 1 + 1 + 1) (w.heap.size + 1 + 1 + 1 + 1 + 1) (w.heap.size + 1 + 1) (w.heap.size + 1 + 1 + 1) b off cap es ts [] l' [] kept' 0 k' _ ?_ (by omega) (by simp; omega) ?_ HC.out ?_ hn).mono ?_
  · exact ⟨by simp [go_sem], by simp [go_sem], by simp <;> omega, by simp <;> omega, by simp <;> omega, by simp <;> omega, by simp <;> omega, by simp <;> omega, by omega, by omega, by omega, by omega, by omega, ni_old (ni_at _ _ (by simp) (by decide)) (by simp)⟩
  · exact HE.out.of (b6 _ ((((((Below.refl w.heap.size w).alloc (Nat.le_refl _) _).alloc (by simp) _).alloc (by simp; omega) _).alloc (by simp; omega) _).alloc (by simp; omega) _ |>.alloc (by simp; omega) _))
  · refine ⟨by simp [go_sem], by simp [go_sem], by simp [go_sem], by simp [go_sem], World.ownsRow_nil _ _ _ _, Kept.refl _ _ _, ⟨none, 0, none, 0, ?_⟩, ?_⟩
    · refine ⟨by simp [go_sem], by simp [go_sem], by simp [go_sem], ⟨rfl, .inl ⟨rfl, rfl⟩⟩, ⟨rfl, .inl ⟨rfl, rfl⟩⟩, fun g h => by simp [blk] at h, fun j => by simp [go_sem], by simp <;> omega, ni_old (ni_old (ni_at _ _ (by simp) (by decide)) (by simp)) (by simp)⟩
    · exact ni_at _ _ (by simp) (by decide)
  rintro e w1 ⟨rfl, v, hR⟩
  obtain ⟨cF, fF, cT, fT, hown, hk, hB1, iF⟩ := hR
  obtain ⟨va, vn, vc, rfl⟩ : ∃ a n c, v = .slice a n c := by
    rcases hown.2 with ⟨h, _⟩ | ⟨g, cap, cur, h, _⟩ <;> exact ⟨_, _, _, h⟩
  have hz := hk.size
  have hge : w.heap.size + 1 + 1 + 1 + 1 + 1 + 1 ≤ w1.heap.size := by simpa using hz
  have kb : w1.cell? ⟨w.heap.size + 1 + 1 + 1 + 1, 0, none⟩ = some (.pointer (some ⟨w.heap.size + 1 + 1 + 1, 0, none⟩)) := (hk.cell 0 (by simp <;> omega) (by simp <;> omega) (by omega) (.inr (ni_old (ni_at _ _ (by simp) (by decide)) (by simp)))).trans (by simp [go_sem])
  have d0 : w1.cell? ⟨w.heap.size + 1, 0, none⟩ = some (.string ⟨#[]⟩) := (hk.cell 0 (by simp <;> omega) (by simp <;> omega) (by omega) (.inl (by omega))).trans (by simp [go_sem])
  have d1 : w1.cell? ⟨w.heap.size + 1, 1, none⟩ = some (.int .i64 0) := (hk.cell 1 (by simp <;> omega) (by simp <;> omega) (by omega) (.inl (by omega))).trans (by simp [go_sem])
  have f0 : w1.frozen? ⟨w.heap.size + 1, 0, none⟩ = false := (hk.frozen 0 (by simp <;> omega) (by simp <;> omega) (by omega) (.inl (by omega))).trans (by simp [go_sem])
  have f1 : w1.frozen? ⟨w.heap.size + 1, 1, none⟩ = false := (hk.frozen 1 (by simp <;> omega) (by simp <;> omega) (by omega) (.inl (by omega))).trans (by simp [go_sem])
  have HBL : Hid (Below w.heap.size w w1) := by
    refine ⟨hk.os, hk.tape, hk.output, by omega, fun q hq => ?_⟩
    have h1 := hk.rest q (by simp <;> omega) (by simp <;> omega) (by omega) (.inl (by omega))
    rw [h1]
    exact ((((((Below.refl w.heap.size w).alloc (Nat.le_refl _) _).alloc (by simp) _).alloc (by simp; omega) _).alloc (by simp; omega) _).alloc (by simp; omega) _ |>.alloc (by simp; omega) _).block q hq
  have HO := Go.Lib.hid (ownsRow_mono hown (base' := w.heap.size + 1 + 1 + 1 + 1 + 1 + 1) (by simp))
  have HR : Hid (RB w1 (w.heap.size + 1 + 1 + 1) l' k' kept') := hB1
  clear hown hk hB1 b6
  go_wp2_with fail
  have HRU : Hid (∀ W : World, W.heap = w1.heap → Calls Tryd.prog 24 #[.pointer (some ⟨w.heap.size + 1 + 1 + 1, 0, none⟩)] W (CopyPost l' W)) := fun W hW => by
    obtain ⟨A, cap, B, cap2, hv⟩ := HR.out
    exact runes_of (hv.same (w' := W) (by rw [hW]; exact Nat.le_refl _) (fun k _ _ => by rw [hW])) hl
  have HPO : Hid (∀ W : World, Below w1.heap.size w1 W → Calls Tryd.prog 25 #[.pointer (some ⟨w.heap.size + 1 + 1 + 1, 0, none⟩)] W fun e w' => e = .returned (.int .i64 (k' : Nat)) ∧ W = w') := fun W hW => pos_of (HR.out.below hW)
  have zr : w.heap.size + 1 + 1 + 1 + 1 < w1.heap.size := by omega
  have zt : w.heap.size + 1 + 1 < w1.heap.size := by omega
  have zl : w.heap.size + 1 < w1.heap.size := by omega
  refine region_held_tail 8 (S := (fun w' => w'.cell? ⟨w.heap.size + 1 + 1 + 1 + 1, 0, none⟩ = some (.pointer (some ⟨w.heap.size + 1 + 1 + 1, 0, none⟩)) ∧ w'.cell? ⟨w.heap.size + 1 + 1, 0, none⟩ = some (.slice va vn vc))) (by kernel_rfl) (by kernel_rfl) ?_ (fun hHeld => ?_)
  · (try dsimp only); first | done | (first | exact ⟨kb, cT⟩ | exact ⟨kb2, cT2⟩ | (refine ⟨?_, ?_⟩ <;> simp [go_sem, kb2, cT2]))
  refine HeldT.take (i := 0) (v := ?_) (by simp only [List.getElem?_toArray, List.getElem?_cons_succ, List.getElem?_cons_zero]; rfl) (by kernel_rfl) (by kernel_rfl) (by kernel_rfl) (by kernel_rfl) (by exact fun _ _ _ h => h) ?_ (by assumption) ?_
  rotate_left
  · refine Or.inl ⟨by rfl, ?_⟩
    (intro w hSw; (try dsimp only at hSw); go_simp; try with_reducible rfl)
  try simp only [Act.put, List.setIfInBounds_toArray, List.set_cons_zero, List.set_cons_succ]
  refine HeldT.take (i := 3) (v := ?_) (by simp only [List.getElem?_toArray, List.getElem?_cons_succ, List.getElem?_cons_zero]; rfl) (by kernel_rfl) (by kernel_rfl) (by kernel_rfl) (by kernel_rfl) (by exact fun _ _ _ h => h) ?_ (by assumption) ?_
  rotate_left
  · refine Or.inl ⟨by rfl, ?_⟩
    (intro w hSw; (try dsimp only at hSw); go_simp; try with_reducible rfl)
  try simp only [Act.put, List.setIfInBounds_toArray, List.set_cons_zero, List.set_cons_succ]
  refine HeldT.take (i := 6) (v := ?_) (by simp only [List.getElem?_toArray, List.getElem?_cons_succ, List.getElem?_cons_zero]; rfl) (by kernel_rfl) (by kernel_rfl) (by kernel_rfl) (by kernel_rfl) (by exact fun _ _ _ h => h) ?_ (by assumption) ?_
  rotate_left
  · refine Or.inl ⟨by rfl, ?_⟩
    (intro w hSw; (try dsimp only at hSw); go_simp; try with_reducible rfl)
  try simp only [Act.put, List.setIfInBounds_toArray, List.set_cons_zero, List.set_cons_succ]
  refine HeldT.one (i := 1) (by simp only [List.getElem?_toArray, List.getElem?_cons_succ, List.getElem?_cons_zero]; rfl) (by kernel_rfl) (by kernel_rfl) (fun K hK => ?_)
  go_simp
  ((refine (HRU.out _ ?_).mono ?_); rfl; rintro e w2 hP; obtain ⟨G, rfl, hG1, hG2, hG3, hb2⟩ := hP; have hcv := conv_copy w2 G l' hG3; have hb3 := (Below.refl w1.heap.size w1).drew.trans (hb2.mono (Nat.le_refl _)); have kb2 := (hb3.cell (p := ⟨w.heap.size + 1 + 1 + 1 + 1, 0, none⟩) zr).trans kb; have cT2 := (hb3.cell (p := ⟨w.heap.size + 1 + 1, 0, none⟩) zt).trans cT; have e0 := (hb3.cell (p := ⟨w.heap.size + 1, 0, none⟩) zl).trans d0; have e1 := (hb3.cell (p := ⟨w.heap.size + 1, 1, none⟩) zl).trans d1; have g0 := (hb3.frozen (p := ⟨w.heap.size + 1, 0, none⟩) zl).trans f0; have g1 := (hb3.frozen (p := ⟨w.heap.size + 1, 1, none⟩) zl).trans f1; have gT := (hb3.frozen (p := ⟨w.heap.size + 1 + 1, 0, none⟩) zt).trans fT; have HB3 := Go.Lib.hid hb3; clear hb2 hb3 hG3)
  try go_wp2_with fail
  refine hK.out _ _ ?_ (fun hHeld => ?_)
  · (try dsimp only); first | done | (first | exact ⟨kb, cT⟩ | exact ⟨kb2, cT2⟩ | (refine ⟨?_, ?_⟩ <;> simp [go_sem, kb2, cT2]))
  clear hK K
  try simp only [Act.put, List.setIfInBounds_toArray, List.set_cons_zero, List.set_cons_succ]
  refine HeldT.two (i := 2) (k := 4) (by simp only [List.getElem?_toArray, List.getElem?_cons_succ, List.getElem?_cons_zero]; rfl) (by simp only [List.getElem?_toArray, List.getElem?_cons_succ, List.getElem?_cons_zero]; rfl) (by kernel_rfl) (by kernel_rfl) (by kernel_rfl) (fun K hK => ?gA) (fun K hK => ?gB)
  case' gA =>
    go_simp
    (skip)
    try go_wp2_with fail
    refine hK.out _ _ ?_ (fun hHeld => ?_)
    · (try dsimp only); first | done | (first | exact ⟨kb, cT⟩ | exact ⟨kb2, cT2⟩ | (refine ⟨?_, ?_⟩ <;> simp [go_sem, kb2, cT2]))
    clear hK K
    try simp only [Act.put, List.setIfInBounds_toArray, List.set_cons_zero, List.set_cons_succ]
    refine HeldT.one (i := 4) (by simp only [List.getElem?_toArray, List.getElem?_cons_succ, List.getElem?_cons_zero]; rfl) (by kernel_rfl) (by kernel_rfl) (fun K hK => ?_)
    go_simp
    ((refine (HPO.out _ HB3.out).mono ?_); rintro e w3 ⟨rfl, rfl⟩)
    try go_wp2_with fail
    refine hK.out _ _ ?_ (fun hHeld => ?_)
    · (try dsimp only); first | done | (first | exact ⟨kb, cT⟩ | exact ⟨kb2, cT2⟩ | (refine ⟨?_, ?_⟩ <;> simp [go_sem, kb2, cT2]))
    clear hK K
    try simp only [Act.put, List.setIfInBounds_toArray, List.set_cons_zero, List.set_cons_succ]
  case' gB =>
    go_simp
    ((refine (HPO.out _ HB3.out).mono ?_); rintro e w3 ⟨rfl, rfl⟩)
    try go_wp2_with fail
    refine hK.out _ _ ?_ (fun hHeld => ?_)
    · (try dsimp only); first | done | (first | exact ⟨kb, cT⟩ | exact ⟨kb2, cT2⟩ | (refine ⟨?_, ?_⟩ <;> simp [go_sem, kb2, cT2]))
    clear hK K
    try simp only [Act.put, List.setIfInBounds_toArray, List.set_cons_zero, List.set_cons_succ]
    refine HeldT.one (i := 2) (by simp only [List.getElem?_toArray, List.getElem?_cons_succ, List.getElem?_cons_zero]; rfl) (by kernel_rfl) (by kernel_rfl) (fun K hK => ?_)
    go_simp
    (skip)
    try go_wp2_with fail
    refine hK.out _ _ ?_ (fun hHeld => ?_)
    · (try dsimp only); first | done | (first | exact ⟨kb, cT⟩ | exact ⟨kb2, cT2⟩ | (refine ⟨?_, ?_⟩ <;> simp [go_sem, kb2, cT2]))
    clear hK K
    try simp only [Act.put, List.setIfInBounds_toArray, List.set_cons_zero, List.set_cons_succ]
  all_goals
    refine HeldT.take (i := 5) (v := ?_) (by simp only [List.getElem?_toArray, List.getElem?_cons_succ, List.getElem?_cons_zero]; rfl) (by kernel_rfl) (by kernel_rfl) (by kernel_rfl) (by kernel_rfl) (by exact fun _ _ _ h => h) ?_ (by assumption) ?_
    rotate_left
    · refine Or.inl ⟨by rfl, ?_⟩
      (intro w hSw; (try dsimp only at hSw); go_simp; try with_reducible rfl)
    try simp only [Act.put, List.setIfInBounds_toArray, List.set_cons_zero, List.set_cons_succ]
    refine HeldT.one (i := 7) (by simp only [List.getElem?_toArray, List.getElem?_cons_succ, List.getElem?_cons_zero]; rfl) (by kernel_rfl) (by kernel_rfl) (fun K hK => ?_)
    go_simp
    refine hK.out _ _ ?_ (fun hHeld => ?_)
    · (try dsimp only); first | done | (first | exact ⟨kb, cT⟩ | exact ⟨kb2, cT2⟩ | (refine ⟨?_, ?_⟩ <;> simp [go_sem, kb2, cT2]))
    clear hK K
    try simp only [Act.put, List.setIfInBounds_toArray, List.set_cons_zero, List.set_cons_succ]
    refine HeldT.tail (by kernel_rfl) rfl ?_
  all_goals go_wp2_with fail
  all_goals
    have q0 : (((w2.setCell ⟨w.heap.size + 1, 0, none⟩ (.string (runesBytes l'))).setCell ⟨w.heap.size + 1, 1, none⟩ (.int .i64 (k' : Nat))).setCell ⟨w.heap.size + 1 + 1, 0, none⟩ (.slice va vn vc)).cell? ⟨w.heap.size + 1, 0, none⟩ = some (.string (runesBytes l')) := by
      rw [World.cell?_setCell_other _ _ _ _ (by simp), World.cell?_setCell_other _ _ _ _ (by simp), World.cell?_setCell_same' _ _ _ (by rw [e0]; rfl)]
    have q1 : (((w2.setCell ⟨w.heap.size + 1, 0, none⟩ (.string (runesBytes l'))).setCell ⟨w.heap.size + 1, 1, none⟩ (.int .i64 (k' : Nat))).setCell ⟨w.heap.size + 1 + 1, 0, none⟩ (.slice va vn vc)).cell? ⟨w.heap.size + 1, 1, none⟩ = some (.int .i64 (k' : Nat)) := by
      rw [World.cell?_setCell_other _ _ _ _ (by simp), World.cell?_setCell_same' _ _ _ (by rw [World.cell?_setCell_other _ _ _ _ (by simp), e1]; rfl)]
    have q2 : (((w2.setCell ⟨w.heap.size + 1, 0, none⟩ (.string (runesBytes l'))).setCell ⟨w.heap.size + 1, 1, none⟩ (.int .i64 (k' : Nat))).setCell ⟨w.heap.size + 1 + 1, 0, none⟩ (.slice va vn vc)).cell? ⟨w.heap.size + 1 + 1, 0, none⟩ = some (.slice va vn vc) :=
      World.cell?_setCell_same' _ _ _ (by rw [World.cell?_setCell_other _ _ _ _ (by simp), World.cell?_setCell_other _ _ _ _ (by simp), cT2]; rfl)
    have hbl2 : Below w.heap.size w w2 := HBL.out.trans (HB3.out.mono HBL.out.size)
    have hng : Hid ((((w2.setCell ⟨w.heap.size + 1, 0, none⟩ (.string (runesBytes l'))).setCell ⟨w.heap.size + 1, 1, none⟩ (.int .i64 (k' : Nat))).setCell ⟨w.heap.size + 1 + 1, 0, none⟩ (.slice va vn vc)).ownsRow w.heap.size 3 1 (.slice va vn vc) ts.length (ints ts)) := by
      have ho := HO.out
      rw [List.take_of_length_le (Nat.le_refl _)] at ho
      have ho2 : w2.ownsRow (w.heap.size + 1 + 1 + 1 + 1 + 1 + 1) 3 1 (.slice va vn vc) ts.length (ints ts) := by
        refine ⟨ho.1, ?_⟩
        rcases ho.2 with h0 | ⟨g, cap, cur, hv, hg, hh, r⟩
        · exact .inl h0
        · exact .inr ⟨g, cap, cur, hv, hg, (HB3.out.block g (Array.getElem?_eq_some_iff.1 hh).1).trans hh, r⟩
      exact ownsRow_mono (ownsRow_setCell_below (a := ⟨w.heap.size + 1 + 1, 0, none⟩) (ownsRow_setCell_below (a := ⟨w.heap.size + 1, 1, none⟩) (ownsRow_setCell_below (a := ⟨w.heap.size + 1, 0, none⟩) ho2 (by show w.heap.size + 1 < _; omega) _) (by show w.heap.size + 1 < _; omega) _) (by show w.heap.size + 1 + 1 < _; omega) _) (by omega)
    have hkk : Hid (Below w.heap.size w (((w2.setCell ⟨w.heap.size + 1, 0, none⟩ (.string (runesBytes l'))).setCell ⟨w.heap.size + 1, 1, none⟩ (.int .i64 (k' : Nat))).setCell ⟨w.heap.size + 1 + 1, 0, none⟩ (.slice va vn vc))) := by
      refine ⟨hbl2.os, hbl2.tape, hbl2.output, by simpa [World.setCell] using hbl2.size, fun i hi => ?_⟩
      rw [Below.heap_setCell _ _ _ _ (by show i ≠ w.heap.size + 1 + 1; omega), Below.heap_setCell _ _ _ _ (by show i ≠ w.heap.size + 1; omega), Below.heap_setCell _ _ _ _ (by show i ≠ w.heap.size + 1; omega)]
      exact hbl2.block i hi
    clear e0 e1 hbl2
    exact bodyPost_ret (v := .tuple #[.agg #[.string (runesBytes l'), .int .i64 (k' : Nat)], .slice va vn vc, .bool true]) (by simp [results, Tryd.results10, go_sem, q0, q1, q2]) rfl ⟨_, rfl, hng.out, hkk.out⟩
end Go.Proofs.YtoimdbmjpkmkfaaDoor
