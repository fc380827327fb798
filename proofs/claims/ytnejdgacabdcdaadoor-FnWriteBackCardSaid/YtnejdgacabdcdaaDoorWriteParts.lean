/- The walk of laws.FnWriteParts. -/
import Derived.Test.YtnejdgacabdcdaaDoorRbGuards
namespace Go.Proofs.YtnejdgacabdcdaaDoor
open Go.RowKit
set_option linter.unusedVariables false
set_option linter.unusedSimpArgs false

theorem take_in (R A : List Int) (k : Nat) (hk : k ≤ R.length) : (R.take k ++ (A ++ R.drop k)).take (k + A.length) = R.take k ++ A := by
  rw [← List.append_assoc]
  exact List.take_left' (by simp; omega)
theorem drop_in (R A : List Int) (k : Nat) (hk : k ≤ R.length) : (R.take k ++ (A ++ R.drop k)).drop (k + A.length) = R.drop k := by
  rw [← List.append_assoc]
  exact List.drop_left' (by simp; omega)
theorem runes_cat (a b : ByteArray) (ha : IsAscii a) (hb : IsAscii b) : runes (a ++ b) = runes a ++ runes b := by
  rw [runes_ascii _ (ha.append hb), runes_ascii a ha, runes_ascii b hb, ByteArray.toList_data_append, List.map_append]

namespace fnWriteParts
def Post (w : World) (e : Ending) (w' : World) : Prop := e = .returned (.bool true) ∧ Below w.heap.size w w'

set_option maxRecDepth 100000 in
set_option maxHeartbeats 4000000 in
theorem walk (s : ByteArray) (at_ : Int) (a b : ByteArray) (w : World) (_hs : s.size ≤ maxLen) (_hat : (Lit.int .i64 at_).wf = true) (_ha : a.size ≤ maxLen) (_hb : b.size ≤ maxLen) {X : Prop} (_hL : X) :
    Calls Tryd.prog 8 #[.agg #[.string s, .int .i64 at_], .string a, .string b] w fun e w' => e = .returned (.bool true) ∧ Below w.heap.size w w' := by
  show Calls _ _ _ _ (Post w)
  clear _hs _hat _hL _ha _hb
  go_enter Tryd.func8, Tryd.ntmps8
  go_wp2_with fail
  refine (fits11_any s at_ _).mono ?_
  rintro e w1 ⟨q, rfl, hb, b1⟩
  have B1 : Hid (Below w.heap.size w w1) := ((Below.refl w.heap.size w).alloc (Nat.le_refl _) _).trans (b1.mono (by simp))
  have c0 : w1.cell? ⟨w.heap.size, 0, none⟩ = some (.string s) := (b1.cell (p := ⟨w.heap.size, 0, none⟩) (by simp)).trans (by simp [go_sem])
  have c1 : w1.cell? ⟨w.heap.size, 1, none⟩ = some (.int .i64 at_) := (b1.cell (p := ⟨w.heap.size, 1, none⟩) (by simp)).trans (by simp [go_sem])
  have z1 : w.heap.size < w1.heap.size := by have := b1.size; simp at this; omega
  have HF := Go.Lib.hid hb
  clear hb b1
  cases q
  · go_wp2_with fail
    go_returns
    exact ⟨rfl, B1.out⟩
  have hs : s.size ≤ 2147483647 := HF.out rfl
  by_cases hma : (2147483647 : Int) < a.size
  · go_wp2_with fail
    go_returns
    exact ⟨rfl, B1.out⟩
  by_cases hmb : (2147483647 : Int) < b.size
  · go_wp2_with fail
    go_returns
    exact ⟨rfl, B1.out⟩
  have hma2 : a.size ≤ 2147483647 := by omega
  have hmb2 : b.size ≤ 2147483647 := by omega
  go_wp2_with fail
  refine (short9_any s at_ _ hs).mono ?_
  rintro e w2 ⟨q, rfl, hb, b2⟩
  have B2 : Hid (Below w.heap.size w w2) := B1.out.trans (b2.mono B1.out.size)
  have d0 := (b2.cell (p := ⟨w.heap.size, 0, none⟩) z1).trans c0
  have d1 := (b2.cell (p := ⟨w.heap.size, 1, none⟩) z1).trans c1
  have z2 : w.heap.size < w2.heap.size := Nat.lt_of_lt_of_le z1 b2.size
  have HL := Go.Lib.hid hb
  clear hb b2 c0 c1 B1 HF
  cases q
  · go_wp2_with fail
    go_returns
    exact ⟨rfl, B2.out⟩
  obtain ⟨⟨hA, -, h0, h1⟩, h100⟩ := HL.out rfl
  have HA := Go.Lib.hid hA
  obtain ⟨k, rfl⟩ : ∃ k : Nat, at_ = k := ⟨at_.toNat, by omega⟩
  clear hA HL
  go_wp2_with fail
  refine (ascii9_any a _ hma2).mono ?_
  rintro e w2' ⟨q, rfl, hb, rfl⟩
  have HAA := Go.Lib.hid hb
  clear hb
  cases q
  · go_wp2_with fail
    go_returns
    exact ⟨rfl, B2.out⟩
  go_wp2_with fail
  refine (ascii9_any b _ hmb2).mono ?_
  rintro e w2' ⟨q, rfl, hb, rfl⟩
  have HAB := Go.Lib.hid hb
  clear hb
  cases q
  · go_wp2_with fail
    go_returns
    exact ⟨rfl, B2.out⟩
  by_cases ha45 : (45 : Int) < a.size
  · go_wp2_with fail
    go_returns
    exact ⟨rfl, B2.out⟩
  by_cases hb45 : (45 : Int) < b.size
  · go_wp2_with fail
    go_returns
    exact ⟨rfl, B2.out⟩
  have HAa : Hid (IsAscii a) := (by first | exact (HAA.out rfl).1 | exact (HAA.out trivial).1)
  have HAb : Hid (IsAscii b) := (by first | exact (HAB.out rfl).1 | exact (HAB.out trivial).1)
  clear HAA HAB
  have hkl : k ≤ s.size := by omega
  obtain ⟨p, hp⟩ : ∃ p, p = s.extract 0 k := ⟨_, rfl⟩
  obtain ⟨t, ht⟩ : ∃ t, t = s.extract k s.size := ⟨_, rfl⟩
  have hps : p.size ≤ 100 := by rw [hp, size_sub s 0 k (by omega)]; omega
  have hts : t.size ≤ 100 := by rw [ht, size_sub s k s.size (by omega)]; omega
  have hra := runes_ascii_length a HAa.out
  have hrb := runes_ascii_length b HAb.out
  have hrs := runes_ascii_length s HA.out
  have hout : runesBytes (((runes s).take k ++ runes a) ++ (runes b ++ (runes s).drop k)) = p ++ a ++ b ++ t := by
    rw [bytes_cat, bytes_cat, bytes_cat, bytes_runes a HAa.out, bytes_runes b HAb.out, bytes_take s HA.out, bytes_drop s HA.out, hp, ht]
    simp only [ByteArray.append_assoc]
  obtain ⟨m, hm⟩ : ∃ m, m = k + a.size + b.size := ⟨_, rfl⟩
  have HX := Go.Lib.hid (after_new s k [⟨1, a, 0, false, false⟩, ⟨1, b, 0, false, false⟩] [-1, -1] _ [] m (p ++ a ++ b ++ t) (by omega) HA.out (by omega) (by
    have k1 := key_write (runes s) k [] (by omega) (by omega) a (by omega) 0 false false
    have k2 := key_write ((runes s).take k ++ (runes a ++ (runes s).drop k)) (k + (runes a).length) [] (by simp; omega) (by simp; omega) b (by omega) 0 false false
    rw [take_in (runes s) (runes a) k (by omega), drop_in (runes s) (runes a) k (by omega)] at k2
    have e : k + (runes a).length + (runes b).length = m := by omega
    rw [e] at k2
    exact .cons k1 (.cons k2 (.nil _ _ _))) hout (by simp; omega) (by simp) (by simp))
  have HY := Go.Lib.hid (after_new s k [⟨1, a ++ b, 0, false, false⟩] [-1] _ [] m (p ++ a ++ b ++ t) (by omega) HA.out (by omega) (by
    have k1 := key_write (runes s) k [] (by omega) (by omega) (a ++ b) (by simp; omega) 0 false false
    rw [runes_cat a b HAa.out HAb.out] at k1
    have e : k + (runes a ++ runes b).length = m := by simp; omega
    rw [e, List.append_assoc, ← List.append_assoc] at k1
    exact .cons k1 (.nil _ _ _)) hout (by simp; omega) (by simp) (by simp))
  have hsl : ∀ w, (Instr.slice 9 (.string s) (some (.int .i64 (k : Nat))) none none).run Tryd.prog w = .ok (.string t) w := fun w => by
    rw [run_slice_string_from_if (P := Tryd.prog) w 9 s .i64 (k : Nat) Tryd.underlying9, if_pos ⟨by omega, by omega⟩, ht]
    simp
  have hsl2 : ∀ w, (Instr.slice 9 (.string s) none (some (.int .i64 (k : Nat))) none).run Tryd.prog w = .ok (.string p) w := fun w => by
    rw [run_slice_string_to_if (P := Tryd.prog) w 9 s .i64 (k : Nat) Tryd.underlying9, if_pos ⟨by omega, by omega⟩, hp]
    simp
  have ho1 : (9223372036854775807 < a.size + b.size) = False := by simp; omega
  have ho2 : (9223372036854775807 < p.size + a.size) = False := by simp; omega
  have ho3 : (9223372036854775807 < (p ++ a).size + b.size) = False := by simp [ByteArray.size_append]; omega
  have ho4 : (9223372036854775807 < (p ++ a ++ b).size + t.size) = False := by simp [ByteArray.size_append]; omega
  clear hp ht hra hrb hrs hout hm
  go_wp2_with fail
  refine (HX.out _ _ _ ?hn ?h).mono ?_
  case hn => rfl
  case h => rfl
  rintro e w3 ⟨rfl, b3⟩
  have B3 : Hid (Below w.heap.size w w3) := B2.out.trans (b3.mono B2.out.size)
  have e0 := (b3.cell (p := ⟨w.heap.size, 0, none⟩) z2).trans d0
  have e1 := (b3.cell (p := ⟨w.heap.size, 1, none⟩) z2).trans d1
  have z3 : w.heap.size < w3.heap.size := Nat.lt_of_lt_of_le z2 b3.size
  clear b3 d0 d1 B2
  go_wp2_with fail
  refine (HY.out _ _ _ ?hn ?h).mono ?_
  case hn => simp
  case h => rfl
  rintro e w4 ⟨rfl, b4⟩
  have B4 : Hid (Below w.heap.size w w4) := (B3.out.alloc (by omega) _).trans (b4.mono (by simp; omega))
  have g0 : w4.cell? ⟨w.heap.size, 0, none⟩ = some (.string s) := (b4.cell (p := ⟨w.heap.size, 0, none⟩) (by simp; omega)).trans ((World.cell?_of_block (Below.heap_alloc _ _ _ z3)).trans e0)
  have g1 : w4.cell? ⟨w.heap.size, 1, none⟩ = some (.int .i64 (k : Nat)) := (b4.cell (p := ⟨w.heap.size, 1, none⟩) (by simp; omega)).trans ((World.cell?_of_block (Below.heap_alloc _ _ _ z3)).trans e1)
  have x0 : w4.cell? ⟨w3.heap.size, 0, none⟩ = some (.string (p ++ a ++ b ++ t)) := (b4.cell (p := ⟨w3.heap.size, 0, none⟩) (by simp)).trans (by simp [go_sem])
  have x1 : w4.cell? ⟨w3.heap.size, 1, none⟩ = some (.int .i64 (m : Nat)) := (b4.cell (p := ⟨w3.heap.size, 1, none⟩) (by simp)).trans (by simp [go_sem])
  have z4 : w3.heap.size < w4.heap.size := by have := b4.size; simp at this; omega
  have z5 : w.heap.size < w4.heap.size := by omega
  clear b4 e0 e1 B3
  go_wp2_with fail
  go_quiet (fail)
  go_wp2_with fail
  go_returns
  exact ⟨rfl, below_drewN (B4.out.alloc (by omega) _) _⟩
end fnWriteParts
end Go.Proofs.YtnejdgacabdcdaaDoor
