/- The walk of laws.FnMessageCut: a whole message is read, one that is cut off is none. -/
import Derived.Test.YtkljpbpojbhbbaaCaught
import Derived.Test.YtkljpbpojbhbbaaTexts
import Derived.Lib.EndianBits
import Derived.Laws.CopyOwn
import Derived.Deep.QuietTactic
import Derived.BigQuiet
import Derived.WalkSmall
namespace Go.Proofs.Ytkljpbpojbhbbaa
open Go.RowKit
set_option linter.unusedVariables false
set_option linter.unusedSimpArgs false

/-- The text's byte at a place. -/
def byteAt (s : ByteArray) (j : Nat) : Int := ((s.data.getD j 0).toNat : Int)
theorem byteAt_eq (s : ByteArray) (j : Nat) (h : j < s.size) : byteAt s j = (s[j].toNat : Int) := by
  simp [byteAt, Array.getD, h]; rfl
theorem bytesRow_byte (s : ByteArray) (c j : Nat) (h : j < s.size) : (bytesRow s c)[j]? = some (.int .u8 (byteAt s j)) := by
  rw [bytesRow_at s c j h, byteAt_eq s j h]; rfl

/-- A slice's tail: its address is known where something stands in it. -/
theorem run_cut {P : Program} (t e : TypeId) (ht : P.underlying t = some (.slice e)) (hi : ∀ w, (sizeOf (P.elem t)).run P w = .ok 1 w) (g o n cap l : Nat) (l' : Int) (hl' : l' = l) (hl : l ≤ n) (hc : n ≤ cap) :
    ∃ A, (∀ w, (Instr.slice t (.slice (some ⟨g, o, none⟩) n cap) (some (.int .i64 l')) none none).run P w = .ok (.slice A (n - l) (cap - l)) w) ∧ (l < cap → A = some ⟨g, o + l, none⟩) := by
  subst hl'
  refine ⟨if cap = l then some ⟨g, o, none⟩ else some ⟨g, o + l, none⟩, fun w => ?_, fun h => by rw [if_neg (by omega)]⟩
  have he : P.elem t = e := by simp [Program.elem, ht]
  rw [run_slice_l w t _ n cap (by rw [he]; exact ht) .i64 l (by omega) (by omega), hi]
  simp only [Result.andThen, sliced, Nat.mul_one, Int.toNat_natCast]
  by_cases h : cap = l
  · rw [if_pos h, if_pos h]
  · rw [if_neg h, if_neg h]
    simp only [Option.map_some, Addr.add]
    by_cases h0 : l = 0
    · rw [if_pos h0, h0]; rfl
    · rw [if_neg h0]

theorem run_cut_any {P : Program} (t e : TypeId) (ht : P.underlying t = some (.slice e)) (hi : ∀ w, (sizeOf (P.elem t)).run P w = .ok 1 w) (a : Option Addr) (n cap l : Nat) (l' : Int) (hl' : l' = l) (hl : l ≤ n) :
    ∃ A, ∀ w, (Instr.slice t (.slice a n cap) (some (.int .i64 l')) none none).run P w = .ok (.slice A (n - l) (cap - l)) w := by
  subst hl'
  refine ⟨if cap = l then a else a.map (·.add l), fun w => ?_⟩
  have he : P.elem t = e := by simp [Program.elem, ht]
  rw [run_slice_l w t _ n cap (by rw [he]; exact ht) .i64 l (by omega) (by omega), hi]
  simp [Result.andThen, sliced]

theorem new_any (s : ByteArray) (w : World) : Calls Try.prog 27 #[.string s] w fun e w' => e = .returned (.iface 61 (.pointer (some ⟨w.heap.size, 0, none⟩))) ∧ w' = w.alloc (.cells #[.string s] 63) := by
  go_enter Try.func27, Try.ntmps27
  go_wp2
  go_returns
  exact ⟨rfl, rfl⟩

def ErrPost (w : World) (e : Ending) (w' : World) : Prop := ∃ p, e = .returned (.tuple #[.pointer none, .slice none 0 0, .iface 61 p]) ∧ Below w.heap.size w w'

theorem read_short (a : Option Addr) (n cap : Nat) (w : World) (hn : n < 4) : Calls Try.prog 23 #[.slice a n cap] w (ErrPost w) := by
  go_enter Try.func23, Try.ntmps23
  go_wp2_with fail
  refine (new_any _ _).mono ?_
  rintro e w1 ⟨rfl, rfl⟩
  go_wp2_with fail
  go_returns
  exact ⟨_, rfl, by go_grown⟩

/-- The bytes ahead of a message of at most 1002 bytes: 0, 0, hi, lo. -/
structure Head (w : World) (g : Nat) (hi lo L : Int) : Prop where
  c0 : w.cell? ⟨g, 0, none⟩ = some (.int .u8 0)
  c1 : w.cell? ⟨g, 1, none⟩ = some (.int .u8 0)
  c2 : w.cell? ⟨g, 2, none⟩ = some (.int .u8 hi)
  c3 : w.cell? ⟨g, 3, none⟩ = some (.int .u8 lo)
  h0 : 0 ≤ hi
  h1 : hi ≤ 3
  l0 : 0 ≤ lo
  l1 : lo ≤ 255
  e : hi * 256 + lo = L

theorem sizeU8 (w : World) : (sizeOf (Try.prog.elem 44)).run Try.prog w = .ok 1 w := by kernel_rfl

theorem read_less (g n cap : Nat) (hi lo L : Int) (w : World) (hd : Head w g hi lo L) (h4 : 4 ≤ n) (h6 : n < 6) (hc : n ≤ cap) (hb : cap ≤ 9223372036854775807) :
    Calls Try.prog 23 #[.slice (some ⟨g, 0, none⟩) n cap] w (ErrPost w) := by
  obtain ⟨c0, c1, c2, c3, h0, h1, l0, l1, e⟩ := hd
  clear e
  have hg := lt_of_cell c0
  have i0 : (0 : Int) < n := by omega
  have i1 : (1 : Int) < n := by omega
  have i2 : (2 : Int) < n := by omega
  have i3 : (3 : Int) < n := by omega
  obtain ⟨A, hA, _⟩ := run_cut (P := Try.prog) 44 5 Try.underlying44 sizeU8 g 0 n cap 4 4 rfl h4 hc
  go_enter Try.func23, Try.ntmps23
  go_wp2_with fail
  go_quiet (fail)
  go_wp2_with fail
  refine (new_any _ _).mono ?_
  rintro e w1 ⟨rfl, rfl⟩
  go_wp2_with fail
  go_returns
  exact ⟨_, rfl, (below_drewN ((Below.refl _ _).alloc (Nat.le_refl _) _) _).alloc (by simp) _⟩

theorem length_of (hi lo : Int) (L : Nat) (h0 : 0 ≤ hi) (h1 : hi ≤ 3) (l0 : 0 ≤ lo) (l1 : lo ≤ 255) (e : hi * 256 + lo = L) :
    bits .or .u32 (bits .or .u32 (bits .or .u32 0 0) (hi * 256)) lo = (L : Int) := by
  have e0 : bits .or .u32 0 0 = 0 := by decide
  have e1 : bits .or .u32 0 (hi * 256) = 0 + hi * 256 := bits_join .u32 32 (by decide) wraps_u32 16 0 _ (by omega) (by omega) (by omega) (by omega) (by simp; omega) (by simp; omega)
  have e2 : bits .or .u32 (hi * 256) lo = hi * 256 + lo := bits_join .u32 32 (by decide) wraps_u32 8 _ _ (by omega) (by simp) (by simp; omega) l0 (by simp; omega) (by simp; omega)
  rw [e0, e1, Int.zero_add, e2, e]

theorem read_cut (g n cap : Nat) (hi lo : Int) (L : Nat) (w : World) (hd : Head w g hi lo L) (h6 : 6 ≤ n) (hL : n < L + 4) (hc : n ≤ cap) (hb : cap ≤ 9223372036854775807) (h2 : 2 ≤ L) (h1002 : L ≤ 1002)
    (k0 k1 : Int) (hk0 : w.cell? ⟨g, 4, none⟩ = some (.int .u8 k0)) (hk1 : w.cell? ⟨g, 5, none⟩ = some (.int .u8 k1)) (b0 : 0 ≤ k0) (b1 : k0 ≤ 127) (b2 : 0 ≤ k1) (b3 : k1 ≤ 255) :
    Calls Try.prog 23 #[.slice (some ⟨g, 0, none⟩) n cap] w (ErrPost w) := by
  obtain ⟨c0, c1, c2, c3, h0, h1, l0, l1, e⟩ := hd
  have hE := length_of hi lo L h0 h1 l0 l1 e
  clear e
  have hg := lt_of_cell c0
  have i0 : (0 : Int) < n := by omega
  have i1 : (1 : Int) < n := by omega
  have i2 : (2 : Int) < n := by omega
  have i3 : (3 : Int) < n := by omega
  obtain ⟨A, hA, ha⟩ := run_cut (P := Try.prog) 44 5 Try.underlying44 sizeU8 g 0 n cap 4 4 rfl (by omega) hc
  obtain rfl := ha (by omega)
  clear ha
  obtain ⟨A2, hA2, ha2⟩ := run_cut (P := Try.prog) 44 5 Try.underlying44 sizeU8 g (0 + 4) (n - 4) (cap - 4) 2 2 rfl (by omega) (by omega)
  clear ha2
  obtain ⟨ib, hib, hz0, hz1, hz2⟩ := info_parts (show (Try.prog.info? 5).map (fun i => (i.zero, i.size, i.bytes)) = some (some (.int .u8 0), 1, 1) by kernel_rfl)
  go_enter Try.func23, Try.ntmps23
  go_wp2_with fail
  go_quiet (fail)
  go_wp2_with fail
  go_region
  go_wp2_with (at_make; refine wpList_make_full _ rfl _ _ 44 rfl (w.heap.size + 1) 5 ib (.int .u8 0) 1 Try.underlying44 hib hz0 hz1 .i64 .i64 ((L : Int) - 2) ((L : Int) - 2) (L - 2) rfl rfl ?c1 ?c1' ?c2 ?c3 ?c4 ?_)
  case c1 => omega
  case c1' => omega
  case c2 => rw [hz2]; omega
  case c3 => unfold maxLen; omega
  case c4 => simp
  intro w1 hown hgrow
  have hm1 : w1.cell? ⟨w.heap.size, 1, none⟩ = some (.slice none 0 0) := by
    refine hgrow.cell ?_ (fun e => by cases e)
    simp [go_sem]
  have hf1 : w1.frozen? ⟨w.heap.size, 1, none⟩ = false := (World.frozen?_of_block (w := ((w.alloc (.cells #[.int .i16 0, .slice none 0 0] 53)).drewN (nq + 1)).setCell ⟨w.heap.size, 0, none⟩ _) (hgrow.block w.heap.size (by simp) (fun e => by cases e))).trans (by simp)
  have hbl : Below w.heap.size w w1 := ((below_drewN ((Below.refl _ _).alloc (Nat.le_refl _) _) _).setCell (Nat.le_refl _) _).grown hgrow (by simp) (fun k hk => by cases hk)
  have hlt : ((n - 4 - 2 : Nat) : Int) < ((L - 2 : Nat) : Int) := by omega
  clear hgrow hown
  go_wp2_with fail
  refine (new_any _ _).mono ?_
  rintro e w2 ⟨rfl, rfl⟩
  go_wp2_with fail
  go_returns
  exact ⟨_, rfl, (hbl.setCell (by simp) _).alloc (by have := hbl.size; simp; omega) _⟩

end Go.Proofs.Ytkljpbpojbhbbaa
