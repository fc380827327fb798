/- EditedFrom, laws.one7. -/
import Derived.Test.YtedjjimabchffaaDoorBufScript
namespace Go.Proofs.YtedjjimabchffaaDoor
open Go.RowKit
set_option linter.unusedVariables false
set_option linter.unusedSimpArgs false

def EditedPost (ts : List ByteArray) (s' : ByteArray) (k' : Nat) (w : World) (e : Ending) (w' : World) : Prop :=
  ∃ v, e = .returned (.tuple #[.agg #[.string s', .int .i64 (k' : Nat)], v, .bool true]) ∧ w'.ownsRow w.heap.size 9 1 v ts.length (txts ts) ∧ Below w.heap.size w w'

set_option maxRecDepth 100000 in
set_option maxHeartbeats 4000000 in
theorem edited_any (b off : Nat) (A : Option Addr) (cap : Nat) (es : List Ed) (ts : List ByteArray) (s s' : ByteArray) (k k' : Nat) (w : World) (hs : Small s) (hk : k ≤ s.size)
    (hA : es = [] ∨ (A = some ⟨b, off, none⟩ ∧ b < w.heap.size ∧ EdsAt w b off es)) (hc : Chain es s k ts s' k') (hn : es.length ≤ 2147483647) :
    Calls Tryd.prog 13 #[.agg #[.string s, .int .i64 (k : Nat)], .slice A es.length cap] w (EditedPost ts s' k' w) := by
  have HA0 := Go.Lib.hid hA
  have HC := Go.Lib.hid hc
  have HS := Go.Lib.hid hs
  clear hA hc hs
  go_enter Tryd.func13, Tryd.ntmps13
  go_wp2_with fail
  refine (document_any s k _ HS.out hk).mono ?_
  rintro e w1 ⟨d, rfl, hd, -, b1⟩
  have d0 : w1.cell? ⟨w.heap.size, 0, none⟩ = some (.string s) := (b1.cell (p := ⟨w.heap.size, 0, none⟩) (by simp <;> omega)).trans (by simp [go_sem])
  have d1 : w1.cell? ⟨w.heap.size, 1, none⟩ = some (.int .i64 (k : Nat)) := (b1.cell (p := ⟨w.heap.size, 1, none⟩) (by simp <;> omega)).trans (by simp [go_sem])
  have o0 : w1.cell? ⟨w.heap.size + 1, 0, none⟩ = some (.string ⟨#[]⟩) := (b1.cell (p := ⟨w.heap.size + 1, 0, none⟩) (by simp <;> omega)).trans (by simp [go_sem])
  have o1 : w1.cell? ⟨w.heap.size + 1, 1, none⟩ = some (.int .i64 0) := (b1.cell (p := ⟨w.heap.size + 1, 1, none⟩) (by simp <;> omega)).trans (by simp [go_sem])
  have g0 : ∀ j, w1.frozen? ⟨w.heap.size + 1, j, none⟩ = false := fun j => (b1.frozen (p := ⟨w.heap.size + 1, j, none⟩) (by simp <;> omega)).trans (by simp [go_sem])
  have hz1 : w.heap.size + 1 < w1.heap.size := by have := b1.size; simp at this; omega
  have B1 : Hid (Below w.heap.size w w1) := (((Below.refl _ _).alloc (Nat.le_refl _) _).alloc (by simp) _).trans (b1.mono (by simp; omega))
  clear hd b1
  go_wp2_with fail
  refine (buffer_at s k w1).mono ?_
  rintro e w2 ⟨rfl, hB2, b2⟩
  have HB2 := Go.Lib.hid hB2
  have p0 : w2.cell? ⟨w.heap.size + 1, 0, none⟩ = some (.string ⟨#[]⟩) := (b2.cell (p := ⟨w.heap.size + 1, 0, none⟩) hz1).trans o0
  have p1 : w2.cell? ⟨w.heap.size + 1, 1, none⟩ = some (.int .i64 0) := (b2.cell (p := ⟨w.heap.size + 1, 1, none⟩) hz1).trans o1
  have pg : ∀ j, w2.frozen? ⟨w.heap.size + 1, j, none⟩ = false := fun j => (b2.frozen (p := ⟨w.heap.size + 1, j, none⟩) hz1).trans (g0 j)
  have hz2 : w1.heap.size ≤ w2.heap.size := b2.size
  have B2 : Hid (Below w.heap.size w w2) := B1.out.trans (b2.mono B1.out.size)
  clear hB2 b2 d0 d1 o0 o1 g0
  go_wp2_with fail
  refine (run_any (w1.heap.size + 1) w1.heap.size b off A cap es ts s s' k k' w2 HB2.out ?_ HC.out hn).mono ?_
  · rcases HA0.out with h | ⟨h, hbl, he⟩
    · exact .inl h
    · exact .inr ⟨h, by omega, ⟨by omega, by omega⟩, he.of (B2.out.block b hbl)⟩
  rintro e w3 ⟨v, rfl, hown, hk3⟩
  obtain ⟨va, vn, vc, rfl⟩ : ∃ a n c, v = .slice a n c := by
    rcases hown.2 with ⟨h, _⟩ | ⟨g, cap, cur, h, _⟩ <;> exact ⟨_, _, _, h⟩
  have n1 : w.heap.size + 1 ∉ [w1.heap.size + 1, w1.heap.size] := by simp; omega
  have r0 := (hk3.cell 0 (b := w.heap.size + 1) (by omega) n1).trans p0
  have r1 := (hk3.cell 1 (b := w.heap.size + 1) (by omega) n1).trans p1
  have rg0 := (hk3.frozen 0 (b := w.heap.size + 1) (by omega) n1).trans (pg 0)
  have rg1 := (hk3.frozen 1 (b := w.heap.size + 1) (by omega) n1).trans (pg 1)
  have HO := Go.Lib.hid hown
  have B3 : Hid (Below w.heap.size w w3) := B2.out.trans (hk3.below B2.out.size (fun x hx => by simp at hx; omega))
  clear hown hk3 n1 p0 p1 pg
  go_wp2_with fail
  have q0 : ((w3.setCell ⟨w.heap.size + 1, 0, none⟩ (.string s')).setCell ⟨w.heap.size + 1, 1, none⟩ (.int .i64 (k' : Nat))).cell? ⟨w.heap.size + 1, 0, none⟩ = some (.string s') := by
    rw [World.cell?_setCell_other _ _ _ _ (by simp), World.cell?_setCell_same' _ _ _ (by rw [r0]; rfl)]
  have q1 : ((w3.setCell ⟨w.heap.size + 1, 0, none⟩ (.string s')).setCell ⟨w.heap.size + 1, 1, none⟩ (.int .i64 (k' : Nat))).cell? ⟨w.heap.size + 1, 1, none⟩ = some (.int .i64 (k' : Nat)) :=
    World.cell?_setCell_same' _ _ _ (by rw [World.cell?_setCell_other _ _ _ _ (by simp), r1]; rfl)
  refine bodyPost_ret (v := .tuple #[.agg #[.string s', .int .i64 (k' : Nat)], .slice va vn vc, .bool true]) (by simp [results, Tryd.results13, go_sem, q0, q1]) rfl ⟨_, rfl, ?_, ?_⟩
  · exact ownsRow_mono (ownsRow_setCell_below (a := ⟨w.heap.size + 1, 1, none⟩) (ownsRow_setCell_below (a := ⟨w.heap.size + 1, 0, none⟩) HO.out (by show w.heap.size + 1 < _; omega) _) (by show w.heap.size + 1 < _; omega) _) (by omega)
  · exact (B3.out.setCell (by show w.heap.size ≤ w.heap.size + 1; omega) _).setCell (by show w.heap.size ≤ w.heap.size + 1; omega) _

theorem eds_one (w : World) (e : Ed) (t : TypeId) : EdsAt (w.alloc (.cells #[.int .i64 e.op, .int .i64 e.n, .string e.s, .bool e.f] t)) w.heap.size 0 [e] := fun j x hx => by
  match j, hx with
  | 0, hx =>
    obtain rfl : e = x := by simpa using hx
    exact ⟨by simp [go_sem], by simp [go_sem], by simp [go_sem], by simp [go_sem]⟩
  | j + 1, hx => simp at hx

/-- What one step makes of a text and a cursor. -/
def OnePost (t s' : ByteArray) (k' : Nat) (w : World) (e : Ending) (w' : World) : Prop :=
  e = .returned (.tuple #[.agg #[.string s', .int .i64 (k' : Nat)], .string t, .bool true]) ∧ Below w.heap.size w w'

set_option maxRecDepth 100000 in
set_option maxHeartbeats 4000000 in
theorem one_any (op n : Int) (str : ByteArray) (fl : Bool) (s s' t : ByteArray) (k k' : Nat) (w : World) (hs : Small s) (hk : k ≤ s.size) (hst : StepOk ⟨op, n, str, fl⟩ s k t s' k') :
    Calls Tryd.prog 14 #[.agg #[.string s, .int .i64 (k : Nat)], .agg #[.int .i64 op, .int .i64 n, .string str, .bool fl]] w (OnePost t s' k' w) := by
  have hc : Chain [⟨op, n, str, fl⟩] s k [t] s' k' := .cons hst (.nil _ _)
  have HC := Go.Lib.hid hc
  have HS := Go.Lib.hid hs
  clear hst hc hs
  go_enter Tryd.func14, Tryd.ntmps14
  go_wp2_with fail
  have hb4 : Below w.heap.size w ((((w.alloc (.cells #[.string s, .int .i64 (k : Nat)] 23)).alloc (.cells #[.int .i64 op, .int .i64 n, .string str, .bool fl] 33)).alloc (.cells #[.string ⟨#[]⟩, .int .i64 0] 23)).alloc (.cells #[.int .i64 op, .int .i64 n, .string str, .bool fl] 33)) :=
    ((((Below.refl _ _).alloc (Nat.le_refl _) _).alloc (by simp) _).alloc (by simp; omega) _).alloc (by simp; omega) _
  refine (edited_any (w.heap.size + 1 + 1 + 1) 0 _ 1 [⟨op, n, str, fl⟩] [t] s s' k k' _ HS.out hk (.inr ⟨rfl, by simp, ?_⟩) HC.out (by simp)).mono ?_
  · have := eds_one (((w.alloc (.cells #[.string s, .int .i64 (k : Nat)] 23)).alloc (.cells #[.int .i64 op, .int .i64 n, .string str, .bool fl] 33)).alloc (.cells #[.string ⟨#[]⟩, .int .i64 0] 23)) ⟨op, n, str, fl⟩ 33
    simpa using this
  rintro e w1 ⟨v, he, hown, b1⟩
  obtain ⟨hl, g, cap, hv, hg, hS⟩ := strs_of_owns hown (by simp)
  subst hv
  subst he
  have hz : w.heap.size + 1 + 1 + 1 < w1.heap.size := by have := b1.size; simp at this; omega
  have hz2 : w.heap.size + 1 + 1 < w1.heap.size := by omega
  have cg : w1.cell? ⟨g, 0, none⟩ = some (.string t) := hS.2 0 (by simp)
  have gl : g < w1.heap.size := hS.1
  have g1' : ¬ g = w1.heap.size := by omega
  have g2' : w.heap.size + 1 + 1 < g := by simp at hg; omega
  have g3' : ¬ g = w.heap.size + 1 + 1 := by omega
  have g4' : ¬ w.heap.size + 1 + 1 = g := by omega
  have g5' : ¬ w.heap.size + 1 + 1 = w1.heap.size := by omega
  have g6' : ¬ w1.heap.size = w.heap.size + 1 + 1 := by omega
  have o0 : w1.cell? ⟨w.heap.size + 1 + 1, 0, none⟩ = some (.string ⟨#[]⟩) := (b1.cell (p := ⟨w.heap.size + 1 + 1, 0, none⟩) (by simp <;> omega)).trans (by simp [go_sem])
  have o1 : w1.cell? ⟨w.heap.size + 1 + 1, 1, none⟩ = some (.int .i64 0) := (b1.cell (p := ⟨w.heap.size + 1 + 1, 1, none⟩) (by simp <;> omega)).trans (by simp [go_sem])
  have g0 : w1.frozen? ⟨w.heap.size + 1 + 1, 0, none⟩ = false := (b1.frozen (p := ⟨w.heap.size + 1 + 1, 0, none⟩) (by simp <;> omega)).trans (by simp [go_sem])
  have g1 : w1.frozen? ⟨w.heap.size + 1 + 1, 1, none⟩ = false := (b1.frozen (p := ⟨w.heap.size + 1 + 1, 1, none⟩) (by simp <;> omega)).trans (by simp [go_sem])
  have B1 : Hid (Below w.heap.size w w1) := hb4.trans (b1.mono (by simp; omega))
  clear hown hS b1 hb4 hg
  go_wp2_with fail
  refine region_held_tail 5 (S := (fun w' => w'.cell? ⟨w1.heap.size, 0, none⟩ = some (.string s') ∧ w'.cell? ⟨w1.heap.size, 1, none⟩ = some (.int .i64 (k' : Nat)) ∧ w'.cell? ⟨g, 0, none⟩ = some (.string t))) (by kernel_rfl) (by kernel_rfl) ?_ (fun hHeld => ?_)
  · (try dsimp only); first | done | ((refine ⟨?_, ?_, ?_⟩ <;> simp [go_sem, cg, gl, g1', g2', g3', g4', g5', g6']))
  refine HeldT.take (i := 0) (v := ?_) (by simp only [List.getElem?_toArray, List.getElem?_cons_succ, List.getElem?_cons_zero]; rfl) (by kernel_rfl) (by kernel_rfl) (by kernel_rfl) (by kernel_rfl) (by exact fun _ _ _ h => h) ?_ (by assumption) ?_
  rotate_left
  · refine Or.inl ⟨by rfl, ?_⟩
    (intro w hSw; (try dsimp only at hSw); go_simp; try with_reducible rfl)
  try simp only [Act.put, List.setIfInBounds_toArray, List.set_cons_zero, List.set_cons_succ]
  refine HeldT.take (i := 1) (v := ?_) (by simp only [List.getElem?_toArray, List.getElem?_cons_succ, List.getElem?_cons_zero]; rfl) (by kernel_rfl) (by kernel_rfl) (by kernel_rfl) (by kernel_rfl) (by exact fun _ _ _ h => h) ?_ (by assumption) ?_
  rotate_left
  · refine Or.inl ⟨by rfl, ?_⟩
    (intro w hSw; (try dsimp only at hSw); go_simp; try with_reducible rfl)
  try simp only [Act.put, List.setIfInBounds_toArray, List.set_cons_zero, List.set_cons_succ]
  refine HeldT.take (i := 2) (v := ?_) (by simp only [List.getElem?_toArray, List.getElem?_cons_succ, List.getElem?_cons_zero]; rfl) (by kernel_rfl) (by kernel_rfl) (by kernel_rfl) (by kernel_rfl) (by exact fun _ _ _ h => h) ?_ (by assumption) ?_
  rotate_left
  · refine Or.inl ⟨by rfl, ?_⟩
    (intro w hSw; (try dsimp only at hSw); go_simp; try with_reducible rfl)
  try simp only [Act.put, List.setIfInBounds_toArray, List.set_cons_zero, List.set_cons_succ]
  refine HeldT.take (i := 3) (v := ?_) (by simp only [List.getElem?_toArray, List.getElem?_cons_succ, List.getElem?_cons_zero]; rfl) (by kernel_rfl) (by kernel_rfl) (by kernel_rfl) (by kernel_rfl) (by exact fun _ _ _ h => h) ?_ (by assumption) ?_
  rotate_left
  · refine Or.inl ⟨by rfl, ?_⟩
    (intro w hSw; (try dsimp only at hSw); go_simp; try with_reducible rfl)
  try simp only [Act.put, List.setIfInBounds_toArray, List.set_cons_zero, List.set_cons_succ]
  refine HeldT.one (i := 4) (by simp only [List.getElem?_toArray, List.getElem?_cons_succ, List.getElem?_cons_zero]; rfl) (by kernel_rfl) (by kernel_rfl) (fun K hK => ?_)
  go_simp
  refine hK.out _ _ ?_ (fun hHeld => ?_)
  · (try dsimp only); first | done | ((refine ⟨?_, ?_, ?_⟩ <;> simp [go_sem, cg, gl, g1', g2', g3', g4', g5', g6']))
  clear hK K
  try simp only [Act.put, List.setIfInBounds_toArray, List.set_cons_zero, List.set_cons_succ]
  refine HeldT.tail (by kernel_rfl) rfl ?_
  go_wp2_with fail
  have q0' : ((w1.setCell ⟨w.heap.size + 1 + 1, 0, none⟩ (.string s')).setCell ⟨w.heap.size + 1 + 1, 1, none⟩ (.int .i64 (k' : Nat))).cell? ⟨w.heap.size + 1 + 1, 0, none⟩ = some (.string s') := by
    rw [World.cell?_setCell_other _ _ _ _ (by simp), World.cell?_setCell_same' _ _ _ (by rw [o0]; rfl)]
  have q1' : ((w1.setCell ⟨w.heap.size + 1 + 1, 0, none⟩ (.string s')).setCell ⟨w.heap.size + 1 + 1, 1, none⟩ (.int .i64 (k' : Nat))).cell? ⟨w.heap.size + 1 + 1, 1, none⟩ = some (.int .i64 (k' : Nat)) :=
    World.cell?_setCell_same' _ _ _ (by rw [World.cell?_setCell_other _ _ _ _ (by simp), o1]; rfl)
  have B2 : Hid (Below w.heap.size w ((w1.setCell ⟨w.heap.size + 1 + 1, 0, none⟩ (.string s')).setCell ⟨w.heap.size + 1 + 1, 1, none⟩ (.int .i64 (k' : Nat)))) :=
    (B1.out.setCell (by show w.heap.size ≤ w.heap.size + 1 + 1; omega) _).setCell (by show w.heap.size ≤ w.heap.size + 1 + 1; omega) _
  have hsz : ((w1.setCell ⟨w.heap.size + 1 + 1, 0, none⟩ (.string s')).setCell ⟨w.heap.size + 1 + 1, 1, none⟩ (.int .i64 (k' : Nat))).heap.size = w1.heap.size := by simp [World.setCell]
  generalize ((w1.setCell ⟨w.heap.size + 1 + 1, 0, none⟩ (.string s')).setCell ⟨w.heap.size + 1 + 1, 1, none⟩ (.int .i64 (k' : Nat))) = W2 at q0' q1' B2 hsz ⊢
  have hb : Below W2.heap.size W2 (W2.alloc (.cells #[.string s', .int .i64 (k' : Nat)] 23)).drew := ((Below.refl _ _).alloc (Nat.le_refl _) _).drew
  have q0 := (hb.cell (p := ⟨w.heap.size + 1 + 1, 0, none⟩) (by show w.heap.size + 1 + 1 < _; omega)).trans q0'
  have q1 := (hb.cell (p := ⟨w.heap.size + 1 + 1, 1, none⟩) (by show w.heap.size + 1 + 1 < _; omega)).trans q1'
  have B3 := B2.out.trans (hb.mono (by omega))
  refine bodyPost_ret (v := .tuple #[.agg #[.string s', .int .i64 (k' : Nat)], .string t, .bool true]) ?_ rfl ⟨rfl, B3⟩
  clear q0' q1' hsz hHeld o0 o1 cg
  generalize (W2.alloc (.cells #[.string s', .int .i64 (k' : Nat)] 23)).drew = W3 at q0 q1 ⊢
  simp [results, Tryd.results14, go_sem, q0, q1]
end Go.Proofs.YtedjjimabchffaaDoor
