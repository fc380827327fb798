/- A whole message is read. -/
import Derived.Test.YtkljpbpojbhbbaaMessageCut
namespace Go.Proofs.Ytkljpbpojbhbbaa
open Go.RowKit
set_option linter.unusedVariables false
set_option linter.unusedSimpArgs false

/-- What a whole message comes to: a message in memory whose data can be read, and nothing left. -/
def FullPost (w : World) (e : Ending) (w' : World) : Prop :=
  ∃ (k : Int) (d dl : Nat) (A : Option Addr) (c : Nat), e = .returned (.tuple #[.pointer (some ⟨w.heap.size, 0, none⟩), .slice A 0 c, .nilIface]) ∧ Below w.heap.size w w' ∧ w.heap.size < w'.heap.size ∧
    w'.cell? ⟨w.heap.size, 0, none⟩ = some (.int .i16 k) ∧ (-32768 ≤ k ∧ k ≤ 32767) ∧ w'.cell? ⟨w.heap.size, 1, none⟩ = some (.slice (some ⟨d, 0, none⟩) dl dl) ∧ dl ≤ 1000 ∧ w.heap.size < d ∧ ∀ j, j < dl → ∃ x : Nat, x < 256 ∧ w'.cell? ⟨d, j, none⟩ = some (.int .u8 x)

theorem read_full (g n cap : Nat) (hi lo : Int) (L : Nat) (w : World) (hd : Head w g hi lo L) (hL : n = L + 4) (hc : n ≤ cap) (hb : cap ≤ 9223372036854775807) (h2 : 2 ≤ L) (h1002 : L ≤ 1002)
    (k0 k1 : Int) (hk0 : w.cell? ⟨g, 4, none⟩ = some (.int .u8 k0)) (hk1 : w.cell? ⟨g, 5, none⟩ = some (.int .u8 k1)) (b0 : 0 ≤ k0) (b1 : k0 ≤ 127) (b2 : 0 ≤ k1) (b3 : k1 ≤ 255)
    (data : List UInt8) (hdl : data.length = L - 2) (hdc : ∀ j, j < data.length → w.cell? ⟨g, 6 + j, none⟩ = some (.int .u8 ((data.getD j 0).toNat : Int))) :
    Calls Try.prog 23 #[.slice (some ⟨g, 0, none⟩) n cap] w (FullPost w) := by
  obtain ⟨c0, c1, c2, c3, h0, h1, l0, l1, e⟩ := hd
  have hE := length_of hi lo L h0 h1 l0 l1 e
  clear e
  have hg := lt_of_cell c0
  have i0 : (0 : Int) < n := by omega
  have i1 : (1 : Int) < n := by omega
  have i2 : (2 : Int) < n := by omega
  have i3 : (3 : Int) < n := by omega
  have HDL := Go.Lib.hid hdl
  have HDC := Go.Lib.hid hdc
  have HLN := Go.Lib.hid hL
  have hn1 : n ≤ L + 4 := by omega
  have hn2 : L + 4 ≤ n := by omega
  clear hdl hdc hL
  obtain ⟨A, hA, ha⟩ := run_cut (P := Try.prog) 44 5 Try.underlying44 sizeU8 g 0 n cap 4 4 rfl (by omega) hc
  obtain rfl := ha (by omega)
  clear ha
  obtain ⟨A2, hA2, ha2⟩ := run_cut (P := Try.prog) 44 5 Try.underlying44 sizeU8 g (0 + 4) (n - 4) (cap - 4) 2 2 rfl (by omega) (by omega)
  have HA2 := Go.Lib.hid ha2
  clear ha2
  obtain ⟨ib, hib, hz0, hz1, hz2⟩ := info_parts (show (Try.prog.info? 5).map (fun i => (i.zero, i.size, i.bytes)) = some (some (.int .u8 0), 1, 1) by kernel_rfl)
  go_enter Try.func23, Try.ntmps23
  go_wp2_with fail
  go_quiet (fail)
  go_wp2_with fail
  go_region
  go_wp2_with (at_make; refine wpList_make_full _ rfl _ _ 44 rfl (w.heap.size + 1) 5 ib (.int .u8 0) 1 Try.underlying44 hib hz0 hz1 .i64 .i64 ((L : Int) - 2) ((L : Int) - 2) (L - 2) rfl rfl ?c1 ?c1' ?c2 ?c3 ?c4 ?_)
  case c1 => omega
  case c1' => omega
  case c2 => rw [hz2]; omega
  case c3 => unfold maxLen; omega
  case c4 => simp
  intro w1 hown hgrow
  have hm1 : w1.cell? ⟨w.heap.size, 1, none⟩ = some (.slice none 0 0) := by
    refine hgrow.cell ?_ (fun e => by cases e)
    simp [go_sem]
  have hm0 : ∃ k, (-32768 ≤ k ∧ k ≤ 32767) ∧ w1.cell? ⟨w.heap.size, 0, none⟩ = some (.int .i16 k) := by
    refine ⟨_, ?_, hgrow.cell (by simp [go_sem]; rfl) (fun e => by cases e)⟩
    exact bounds_i16 (wf_wrap .i16 (bits .or .u16 (k0 * 256) k1))
  obtain ⟨kk, hkk, hm0⟩ := hm0
  have hf1 : w1.frozen? ⟨w.heap.size, 1, none⟩ = false := (World.frozen?_of_block (w := ((w.alloc (.cells #[.int .i16 0, .slice none 0 0] 53)).drewN (nq + 1)).setCell ⟨w.heap.size, 0, none⟩ _) (hgrow.block w.heap.size (by simp) (fun e => by cases e))).trans (by simp)
  have hbl : Below w.heap.size w w1 := ((below_drewN ((Below.refl _ _).alloc (Nat.le_refl _) _) _).setCell (Nat.le_refl _) _).grown hgrow (by simp) (fun k hk => by cases hk)
  have hlt : ((L - 2 : Nat) : Int) ≤ ((n - 4 - 2 : Nat) : Int) := by omega
  obtain ⟨_, ho⟩ := hown
  rcases ho with ⟨ho, _⟩ | ⟨g1, cap1, cur, hv, hg1, hh, hn1', hcm, hcs, htk⟩
  · cases ho
  obtain ⟨rfl, rfl⟩ : g1 = w.heap.size + 1 ∧ cap1 = L - 2 := by cases hv; exact ⟨rfl, rfl⟩
  have HH := Go.Lib.hid hh
  have HCS := Go.Lib.hid hcs
  clear hv htk hh hcs hgrow
  obtain ⟨A3, hA3⟩ := run_cut_any (P := Try.prog) 44 5 Try.underlying44 sizeU8 A2 (n - 4 - 2) (cap - 4 - 2) (L - 2) ((L - 2 : Nat) : Int) rfl (by omega)
  go_wp2_with (with_reducible refine wpList_copy_splice rfl _ _ 44 44 rfl 5 Try.underlying44 ?k0 (some ⟨w.heap.size + 1, 0, none⟩) A2 (L - 2) (L - 2) (n - 4 - 2) (cap - 4 - 2) rfl rfl (w.heap.size + 1) 0 cur.toList 5 ?k1 (data.map fun b => .int .u8 (b.toNat : Int)) ?k2 ?k3 ?k4 ?k5 (w.heap.size + 1) _ (Below.refl _ _) (Nat.le_refl _) ?_)
  case k0 => kernel_rfl
  case k1 => exact (Below.heap_setCell _ _ _ _ (by simp)).trans (by simpa using HH.out)
  case k2 => rw [List.length_map, HDL.out]; exact (Nat.min_eq_right (by omega)).symm
  case k3 =>
    intro h0
    have h0' : 0 < data.length := by simpa using h0
    have := HDL.out
    obtain rfl := HA2.out (by omega)
    refine ⟨_, rfl, fun j v hj => ?_⟩
    have hj' : j < data.length := by have := (List.getElem?_eq_some_iff.1 hj).1; simpa using this
    have hc1 : w1.cell? ⟨g, 6 + j, none⟩ = _ := (hbl.cell (p := ⟨g, 6 + j, none⟩) hg).trans (HDC.out j hj')
    have ha : (⟨g, 0 + 4 + 2, none⟩ : Addr).add j = ⟨g, 6 + j, none⟩ := by
      unfold Addr.add; split
      · rename_i h; rw [h]
      · rfl
    rw [ha, World.cell?_setCell_other _ _ _ _ (by intro e; have := congrArg Addr.block e; simp at this; omega), hc1]
    simp [List.getElem?_eq_getElem hj'] at hj
    rw [← hj]; simp [hj']
  case k4 => have := HDL.out; have := HCS.out; simp; omega
  case k5 => intro v hv; simp at hv; obtain ⟨x, _, rfl⟩ := hv; rfl
  intro w2 hw2 hb2
  have hn0 : w2.cell? ⟨w.heap.size, 0, none⟩ = some (.int .i16 kk) := (hb2.cell (p := ⟨w.heap.size, 0, none⟩) (Nat.lt_succ_self _)).trans (by rw [World.cell?_setCell_other _ _ _ _ (by simp)]; exact hm0)
  have hn1'' : w2.cell? ⟨w.heap.size, 1, none⟩ = some (.slice (some ⟨w.heap.size + 1, 0, none⟩) (L - 2) (L - 2)) := (hb2.cell (p := ⟨w.heap.size, 1, none⟩) (Nat.lt_succ_self _)).trans (World.cell?_setCell_same' _ _ _ (by rw [hm1]; rfl))
  have hbl2 : Below w.heap.size w w2 := (hbl.setCell (Nat.le_refl _) _).trans (hb2.mono (Nat.le_succ _))
  have hsz := lt_of_cell hn0
  go_wp2_with fail
  go_quiet (fail)
  go_wp2_with fail
  go_returns
  refine ⟨kk, w.heap.size + 1, L - 2, A3, cap - 4 - 2 - (L - 2), ?_, ?_, ?_, ?_, hkk, ?_, by omega, Nat.lt_succ_self _, ?_⟩
  · have e0 : n - 4 - 2 - (L - 2) = 0 := by omega
    simp [e0]
  · exact below_drewN hbl2 _
  · simpa using hsz
  · simpa using hn0
  · simpa using hn1''
  · intro j hj
    have hj' : j < data.length := by have := HDL.out; omega
    refine ⟨(data[j]).toNat, UInt8.toNat_lt _, ?_⟩
    simp only [World.cell?_drewN]
    rw [World.cell?, hw2.out]
    simp [splice]
    rw [List.getElem?_append_left (by simpa using hj')]
    simp [hj']
end Go.Proofs.Ytkljpbpojbhbbaa
