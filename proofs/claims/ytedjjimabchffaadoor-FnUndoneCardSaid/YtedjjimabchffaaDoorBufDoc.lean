/- (*Buffer).Document: the document of a buffer's text and cursor. -/
import Derived.Test.YtedjjimabchffaaDoorBufBase
namespace Go.Proofs.YtedjjimabchffaaDoor
open Go.RowKit
set_option linter.unusedVariables false
set_option linter.unusedSimpArgs false

theorem Buf.same {w w' : World} {bb lb : Nat} {s : ByteArray} {k : Nat} (h : Buf w bb lb s k) (hz : w.heap.size ≤ w'.heap.size)
    (hk : ∀ k, k < w.heap.size → (k = bb ∨ k = lb ∨ ((∃ s j, DocAt w k s j) ∧ DocBlock w k)) → w'.heap[k]? = w.heap[k]?) : Buf w' bb lb s k := by
  obtain ⟨c0, c1, c2, ⟨c, c3, hcc⟩, ⟨p, c4⟩, t, f, g, lt, sz⟩ := h
  have e1 := hk bb sz (.inl rfl)
  have e2 := hk lb (Nat.lt_trans lt sz) (.inr (.inl rfl))
  have hc : ∀ j, w'.cell? ⟨bb, j, none⟩ = w.cell? ⟨bb, j, none⟩ := fun j => World.cell?_of_block (w := w) e1
  refine ⟨(hc _).trans c0, (hc _).trans c1, (hc _).trans c2, ⟨c, (hc _).trans c3, ?_⟩, ⟨p, (hc _).trans c4⟩, (World.cell?_of_block (w := w) e2).trans t, fun j => (World.frozen?_of_block (w := w) e1).trans (f j), (World.frozen?_of_block (w := w) e2).trans g, lt, by omega⟩
  rcases hcc with h | ⟨d, s', k', h, hd, n1, n2⟩
  · exact .inl h
  · have e3 := hk d hd.2.lt (.inr (.inr ⟨⟨_, _, hd.1⟩, hd.2⟩))
    exact .inr ⟨d, s', k', h, ⟨⟨(World.cell?_of_block (w := w) e3).trans hd.1.1, (World.cell?_of_block (w := w) e3).trans hd.1.2.1, by have := hd.1.2.2; omega⟩, hd.2.of e3⟩, n1, n2⟩

theorem Buf.like {w w' : World} {bb lb : Nat} {s : ByteArray} {k : Nat} (h : Buf w bb lb s k) (hc : ∀ a, w'.cell? a = w.cell? a) (hf : ∀ a, w'.frozen? a = w.frozen? a) (hz : w'.heap = w.heap) : Buf w' bb lb s k :=
  h.same (by rw [hz]; exact Nat.le_refl _) (fun k _ _ => by rw [hz])

/-- The same memory; draws have been answered. -/
def Same (w w' : World) : Prop := (∀ a, w'.cell? a = w.cell? a) ∧ (∀ a, w'.frozen? a = w.frozen? a) ∧ w'.heap = w.heap ∧ ∀ B, Below B w w'

theorem text_same (bb lb : Nat) (s : ByteArray) (k : Nat) (w : World) (h : Buf w bb lb s k) :
    Calls Tryd.prog 25 #[.pointer (some ⟨bb, 0, none⟩)] w fun e w' => e = .returned (.string s) ∧ Same w w' :=
  (buf_text bb lb s k w h).mono fun e w' ⟨he, q, hq⟩ => ⟨he, by rw [hq]; exact ⟨fun _ => rfl, fun _ => rfl, rfl, fun B => below_drewN (Below.refl _ _) _⟩⟩

theorem Buf.fresh {w : World} {bb lb : Nat} {s : ByteArray} {k : Nat} (h : Buf w bb lb s k) (s' : ByteArray) (k' : Nat) :
    Buf ((w.setCell ⟨bb, 3, none⟩ (.pointer (some ⟨w.heap.size, 0, none⟩))).alloc (.cells #[.string s', .int .i64 (k' : Nat)] 50)) bb lb s k ∧
    DocAt ((w.setCell ⟨bb, 3, none⟩ (.pointer (some ⟨w.heap.size, 0, none⟩))).alloc (.cells #[.string s', .int .i64 (k' : Nat)] 50)) w.heap.size s' k' ∧
    Own bb lb w ((w.setCell ⟨bb, 3, none⟩ (.pointer (some ⟨w.heap.size, 0, none⟩))).alloc (.cells #[.string s', .int .i64 (k' : Nat)] 50)) := by
  have hsz := h.sz
  have hlt := h.lt
  have h1 := h.below ((Below.refl _ _).alloc (Nat.le_refl _) (.cells #[.string s', .int .i64 (k' : Nat)] 50))
  have hd : DocAt (w.alloc (.cells #[.string s', .int .i64 (k' : Nat)] 50)) w.heap.size s' k' := ⟨by simp [go_sem], by simp [go_sem], by simp⟩
  have h2 := h1.cache w.heap.size s' k' hd (DocBlock.new _ _) (by omega) (by omega)
  have h3 := hd.other ⟨bb, 3, none⟩ (.pointer (some ⟨w.heap.size, 0, none⟩)) (by show bb ≠ w.heap.size; omega)
  rw [World.setCell_alloc_past _ _ _ _ hsz] at h2 h3
  exact ⟨h2, h3, ((Own.refl _ _ _).setB _ _).alloc _⟩

def DocumentPost (bb lb : Nat) (s : ByteArray) (k : Nat) (w : World) (e : Ending) (w' : World) : Prop :=
  ∃ d, e = .returned (.pointer (some ⟨d, 0, none⟩)) ∧ DocAt w' d s k ∧ Buf w' bb lb s k ∧ Own bb lb w w'

set_option maxHeartbeats 4000000 in
theorem document_new (bb lb : Nat) (s : ByteArray) (k : Nat) (w : World) (h : Buf w bb lb s k) (hn : w.cell? ⟨bb, 3, none⟩ = some (.pointer none)) :
    Calls Tryd.prog 46 #[.pointer (some ⟨bb, 0, none⟩)] w (DocumentPost bb lb s k w) := by
  have H := Go.Lib.hid h
  obtain ⟨c0, c1, c2, hc3, hc4, t, f, g, lt, sz⟩ := h
  have f3 := f 3
  have nb : ¬ bb = w.heap.size := by omega
  have hds : ∀ n, (w.drewN n).heap.size = w.heap.size := fun _ => rfl
  have hdf : ∀ n a, (w.drewN n).frozen? a = w.frozen? a := fun _ _ => rfl
  clear hc3 hc4 f
  go_enter Tryd.func46, Tryd.ntmps46
  go_wp2_with fail
  go_quiet (fail)
  go_wp2_with fail
  have HL := Go.Lib.hid (fun (w' : World) (hc : ∀ a, w'.cell? a = w.cell? a) (hf : ∀ a, w'.frozen? a = w.frozen? a) (hz : w'.heap = w.heap) => text_same bb lb s k w' (H.out.like hc hf hz))
  have HT : Hid (∀ n, Calls Tryd.prog 25 #[.pointer (some ⟨bb, 0, none⟩)] (w.drewN n) fun e w' => e = .returned (.string s) ∧ w'.cell? ⟨bb, 2, none⟩ = some (.int .i64 (k : Nat)) ∧ w'.cell? ⟨bb, 3, none⟩ = some (.pointer none) ∧ w'.frozen? ⟨bb, 3, none⟩ = false ∧ bb < w'.heap.size ∧ (¬ bb = w'.heap.size) ∧ Hid (Same w w')) := fun n =>
    (HL.out (w.drewN n) (fun _ => rfl) (fun _ => rfl) rfl).mono fun e w' ⟨he, h1, h2, h3, h4⟩ => ⟨he, (h1 _).trans c2, (h1 _).trans hn, (h2 _).trans f3, by have h5 : w'.heap.size = w.heap.size := congrArg Array.size h3; omega, by have h5 : w'.heap.size = w.heap.size := congrArg Array.size h3; omega, ⟨fun a => h1 a, fun a => h2 a, h3, fun B => (below_drewN (Below.refl _ _) _).trans (h4 B)⟩⟩
  clear HL
  go_region_with ((go_at_call 25; (with_reducible refine (HT.out _).mono ?_); rintro e w1 ⟨rfl, k2, k3, g3, z1, z2, HS1⟩))
  all_goals go_wp2_with fail
  all_goals go_returns
  all_goals (
    obtain ⟨s1, s2, s3, s4⟩ := HS1.out
    have hB := (H.out.like s1 s2 s3).fresh s k
    exact ⟨_, rfl, hB.2.1, hB.1, (Own.of (s4 _)).trans hB.2.2⟩)

theorem toList_ne {a b : ByteArray} (h : a ≠ b) : (a.toList == b.toList) = false := by
  rw [ByteArray.toList_eq, ByteArray.toList_eq, beq_eq_false_iff_ne]
  exact fun e => h (ba_ext e)

set_option maxHeartbeats 4000000 in
theorem document_same (bb lb d : Nat) (s : ByteArray) (k : Nat) (w : World) (h : Buf w bb lb s k) (hn : w.cell? ⟨bb, 3, none⟩ = some (.pointer (some ⟨d, 0, none⟩))) (hd : DocAt w d s k) :
    Calls Tryd.prog 46 #[.pointer (some ⟨bb, 0, none⟩)] w (DocumentPost bb lb s k w) := by
  have H := Go.Lib.hid h
  have HD := Go.Lib.hid hd
  obtain ⟨c0, c1, c2, hc3, hc4, t, f, g, lt, sz⟩ := h
  obtain ⟨d0, d1, dsz⟩ := hd
  have HTq : Hid (∀ n, Calls Tryd.prog 25 #[.pointer (some ⟨bb, 0, none⟩)] (w.drewN n) fun e w' => e = .returned (.string s) ∧ ∃ m, w' = (w.drewN n).drewN m) := fun n =>
    buf_text bb lb s k (w.drewN n) (H.out.like (fun _ => rfl) (fun _ => rfl) rfl)
  have q1 : (s.toList == s.toList) = true := by simp
  have q2 : (s.toList != s.toList) = false := by simp
  have q3 : ((k : Int) != (k : Int)) = false := by simp
  clear hc3 hc4 f
  go_enter Tryd.func46, Tryd.ntmps46
  go_wp2_with fail
  go_quiet ((go_at_call 25; exact Calls.quiet_of (HTq.out _)))
  go_wp2_with fail
  go_returns
  exact ⟨d, rfl, HD.out.below (below_drewN (Below.refl _ _) _), H.out.below (below_drewN (Below.refl _ _) _), Own.of (below_drewN (Below.refl _ _) _)⟩

set_option maxHeartbeats 4000000 in
theorem document_other (bb lb d : Nat) (s s' : ByteArray) (k k' : Nat) (w : World) (h : Buf w bb lb s k) (hn : w.cell? ⟨bb, 3, none⟩ = some (.pointer (some ⟨d, 0, none⟩))) (hd : DocAt w d s' k') (hne : s' ≠ s ∨ (s' = s ∧ k' ≠ k)) :
    Calls Tryd.prog 46 #[.pointer (some ⟨bb, 0, none⟩)] w (DocumentPost bb lb s k w) := by
  have H := Go.Lib.hid h
  obtain ⟨c0, c1, c2, hc3, hc4, t, f, g, lt, sz⟩ := h
  obtain ⟨d0, d1, dsz⟩ := hd
  have f3 := f 3
  have HTq : Hid (∀ n, Calls Tryd.prog 25 #[.pointer (some ⟨bb, 0, none⟩)] (w.drewN n) fun e w' => e = .returned (.string s) ∧ ∃ m, w' = (w.drewN n).drewN m) := fun n =>
    buf_text bb lb s k (w.drewN n) (H.out.like (fun _ => rfl) (fun _ => rfl) rfl)
  have HL := Go.Lib.hid (fun (w' : World) (hc : ∀ a, w'.cell? a = w.cell? a) (hf : ∀ a, w'.frozen? a = w.frozen? a) (hz : w'.heap = w.heap) => text_same bb lb s k w' (H.out.like hc hf hz))
  have HT : Hid (∀ n, Calls Tryd.prog 25 #[.pointer (some ⟨bb, 0, none⟩)] (w.drewN n) fun e w' => e = .returned (.string s) ∧ w'.cell? ⟨bb, 2, none⟩ = some (.int .i64 (k : Nat)) ∧ w'.cell? ⟨bb, 3, none⟩ = some (.pointer (some ⟨d, 0, none⟩)) ∧ w'.frozen? ⟨bb, 3, none⟩ = false ∧ bb < w'.heap.size ∧ (¬ bb = w'.heap.size) ∧ Hid (Same w w')) := fun n =>
    (HL.out (w.drewN n) (fun _ => rfl) (fun _ => rfl) rfl).mono fun e w' ⟨he, h1, h2, h3, h4⟩ => ⟨he, (h1 _).trans c2, (h1 _).trans hn, (h2 _).trans f3, by have h5 : w'.heap.size = w.heap.size := congrArg Array.size h3; omega, by have h5 : w'.heap.size = w.heap.size := congrArg Array.size h3; omega, ⟨fun a => h1 a, fun a => h2 a, h3, fun B => (below_drewN (Below.refl _ _) _).trans (h4 B)⟩⟩
  clear HL
  clear hc3 hc4 f
  rcases hne with hne | ⟨rfl, hne⟩
  · have q1 := toList_ne hne
    have q2 : (s'.toList != s.toList) = true := by rw [bne, q1]; rfl
    clear hne
    go_enter Tryd.func46, Tryd.ntmps46
    go_wp2_with fail
    go_quiet ((go_at_call 25; exact Calls.quiet_of (HTq.out _)))
    go_wp2_with fail
    go_region_with ((go_at_call 25; (with_reducible refine (HT.out _).mono ?_); rintro e w1 ⟨rfl, k2, k3, g3, z1, z2, HS1⟩))
    all_goals go_wp2_with fail
    all_goals go_returns
    all_goals (
      obtain ⟨s1, s2, s3, s4⟩ := HS1.out
      have hB := (H.out.like s1 s2 s3).fresh s k
      exact ⟨_, rfl, hB.2.1, hB.1, (Own.of (s4 _)).trans hB.2.2⟩)
  · have q1 : (s'.toList == s'.toList) = true := by simp
    have q2 : (s'.toList != s'.toList) = false := by simp
    have q3 : ((k' : Int) != (k : Int)) = true := by simp; omega
    clear hne
    go_enter Tryd.func46, Tryd.ntmps46
    go_wp2_with fail
    go_quiet ((go_at_call 25; exact Calls.quiet_of (HTq.out _)))
    go_wp2_with fail
    go_region_with ((go_at_call 25; (with_reducible refine (HT.out _).mono ?_); rintro e w1 ⟨rfl, k2, k3, g3, z1, z2, HS1⟩))
    all_goals go_wp2_with fail
    all_goals go_returns
    all_goals (
      obtain ⟨s1, s2, s3, s4⟩ := HS1.out
      have hB := (H.out.like s1 s2 s3).fresh s' k
      exact ⟨_, rfl, hB.2.1, hB.1, (Own.of (s4 _)).trans hB.2.2⟩)

theorem buf_document (bb lb : Nat) (s : ByteArray) (k : Nat) (w : World) (h : Buf w bb lb s k) :
    Calls Tryd.prog 46 #[.pointer (some ⟨bb, 0, none⟩)] w (DocumentPost bb lb s k w) := by
  obtain ⟨c, c3, hc⟩ := h.c3
  rcases hc with rfl | ⟨d, s', k', rfl, ⟨hd, _⟩, _, _⟩
  · exact document_new bb lb s k w h c3
  · by_cases e : s' = s
    · subst e
      by_cases e2 : k' = k
      · subst e2; exact document_same bb lb d s' k' w h c3 hd
      · exact document_other bb lb d s' s' k k' w h c3 hd (.inr ⟨rfl, e2⟩)
    · exact document_other bb lb d s s' k k' w h c3 hd (.inl e)
end Go.Proofs.YtedjjimabchffaaDoor
