/- laws.zzFits1: a list of texts, each of a length that an int32 holds. Runes.Copy. The common head of texts, plain. -/
import Derived.Test.YtmkefndmiagoaaaDoorIndexOff
import Derived.Test.YtmkefndmiagoaaaDoorWhole
import Derived.Laws.CopyOwn
namespace Go.Proofs.YtmkefndmiagoaaaDoor
open Go.RowKit
set_option linter.unusedVariables false
set_option linter.unusedSimpArgs false

def FitsPost (ss : List ByteArray) (w : World) (e : Ending) (w' : World) : Prop :=
  ∃ b, e = .returned (.bool b) ∧ (b = true → ss.length ≤ 2147483647 ∧ ∀ s ∈ ss, s.size ≤ 2147483647) ∧ w' = w

theorem fits1_any (a : Option Addr) (cap : Nat) (ss : List ByteArray) (w : World) (h : IsStrs w a ss) :
    Calls Tryd.prog 6 #[.slice a ss.length cap] w (FitsPost ss w) := by
  obtain ⟨n, hn⟩ : ∃ n, n = ss.length := ⟨_, rfl⟩
  have Hn := Go.Lib.hid hn
  have HH := Go.Lib.hid h
  rw [← hn]
  clear hn h
  by_cases hL : (2147483647 : Int) < n
  · go_enter Tryd.func6, Tryd.ntmps6
    go_wp2
    go_returns
    exact ⟨false, rfl, (fun h => by cases h), rfl⟩
  have hl : n ≤ 2147483647 := by omega
  go_enter Tryd.func6, Tryd.ntmps6
  go_wp2
  go_loop [10] (fun i => ∃ k : Nat, k ≤ n ∧ i = .int .i64 k ∧ Hid (∀ j, j < k → (txt ss j).size ≤ 2147483647)) (fun i => n - (intOf i).toNat)
  case atStart => exact ⟨0, Nat.zero_le _, rfl, fun j hj => by omega⟩
  case round =>
    obtain ⟨k, hk, rfl, HG⟩ := hrel
    by_cases hlt : k < n
    · rcases HH.out with e | ⟨b, off, rfl, hbl, hc⟩
      · have := Hn.out; rw [e] at this; simp at this; omega
      have hck : w.cell? ⟨b, off + k, none⟩ = some (.string (txt ss k)) := hc k (by rw [← Hn.out]; exact hlt)
      clear hc
      by_cases h3 : (2147483647 : Int) < (txt ss k).size
      · go_wp2
        go_returns
        exact ⟨false, rfl, (fun h => by cases h), rfl⟩
      · have H3 : Hid ((txt ss k).size ≤ 2147483647) := Go.Lib.hid (by omega)
        go_wp2
        go_round
        case rel => exact ⟨k + 1, by omega, by go_num, fun j hj => by
          by_cases e : j < k
          · exact HG.out j e
          · obtain rfl : j = k := by omega
            exact H3.out⟩
        case measure => simp [intOf]; omega
    · have hv : n ≤ 2147483647 ∧ ∀ s ∈ ss, s.size ≤ 2147483647 := ⟨hl, fun s hs => by
        obtain ⟨j, hj, rfl⟩ := mem_txt ss s hs
        exact HG.out j (by have := Hn.out; omega)⟩
      have HV := Go.Lib.hid hv
      clear hv
      go_wp2
      go_returns
      exact ⟨true, rfl, fun _ => ⟨by rw [← Hn.out]; exact hl, HV.out.2⟩, rfl⟩

/-- A row of code points that stands in a block of its own, whole. -/
def OwnRow (w : World) (B : Nat) (zs : List Int) : Prop := ∃ cur : Array Value, w.heap[B]? = some (.cells cur 21 (0, 0)) ∧ cur.size = zs.length ∧ ∀ j, j < zs.length → cur[j]? = some (.int .i32 (nth zs j))

theorem OwnRow.cell {w : World} {B : Nat} {zs : List Int} (h : OwnRow w B zs) (j : Nat) (hj : j < zs.length) : w.cell? ⟨B, j, none⟩ = some (.int .i32 (nth zs j)) := by
  obtain ⟨cur, h1, h2, h3⟩ := h
  unfold World.cell?
  simp only [h1]
  exact h3 j hj

theorem OwnRow.row {w : World} {B : Nat} {zs : List Int} (h : OwnRow w B zs) : RuneRow w (some ⟨B, 0, none⟩) zs := RuneRow.of fun j hj => by rw [Nat.zero_add]; exact h.cell j hj

def CopyPost (zs : List Int) (n : Nat) (w : World) (e : Ending) (w' : World) : Prop :=
  ∃ B, e = .returned (.slice (some ⟨B, 0, none⟩) n n) ∧ w.heap.size ≤ B ∧ B < w'.heap.size ∧ OwnRow w' B zs ∧ Below w.heap.size w w'

set_option maxRecDepth 100000 in
theorem copy_any (A : Option Addr) (n cap : Nat) (zs : List Int) (w : World) (hn : n = zs.length) (hrow : RuneRow w A zs) (hlen : n ≤ 100000) :
    Calls Tryd.prog 28 #[.agg #[], .slice A n cap] w (CopyPost zs n w) := by
  have H := Go.Lib.hid hrow
  have Hn := Go.Lib.hid hn
  clear hrow hn
  obtain ⟨ib, hib, hz0, hz1, hz2⟩ := info_parts (show (Tryd.prog.info? 21).map (fun i => (i.zero, i.size, i.bytes)) = some (some (.int .i32 0), 1, 4) by kernel_rfl)
  go_enter Tryd.func28, Tryd.ntmps28
  go_wp2_with (at_make; refine wpList_make_full _ rfl _ _ 51 rfl (w.heap.size + 1) 21 ib (.int .i32 0) 1 Tryd.underlying51 hib hz0 hz1 .i64 .i64 (n : Int) (n : Int) n rfl rfl rfl rfl ?c2 ?c3 ?c4 ?_)
  case c2 => rw [hz2]; omega
  case c3 => unfold maxLen; omega
  case c4 => simp
  intro w1 hown hgrow
  have hb1 : Below w.heap.size w w1 := ((Below.refl _ w).alloc (Nat.le_refl _) _).grown hgrow (by simp) (fun k hk => by cases hk)
  obtain ⟨_, ho⟩ := hown
  rcases ho with ⟨ho, _⟩ | ⟨g1, cap1, cur, hv, hg1, hh, hn1', hcm, hcs, htk⟩
  · cases ho
  obtain ⟨rfl, rfl⟩ : g1 = w.heap.size + 1 ∧ n = cap1 := by cases hv; simp
  have HH := Go.Lib.hid hh
  have HCS := Go.Lib.hid hcs
  clear hv htk hh hcs hgrow
  go_wp2_with (with_reducible refine wpList_copy_splice rfl _ _ 51 51 rfl 21 Tryd.underlying51 ?k0 (some ⟨w.heap.size + 1, 0, none⟩) A n n n cap rfl rfl (w.heap.size + 1) 0 cur.toList 21 ?k1 (zs.map fun z => .int .i32 z) ?k2 ?k3 ?k4 ?k5 (w.heap.size + 1) _ (Below.refl _ _) (Nat.le_refl _) ?_)
  case k0 => kernel_rfl
  case k1 => simpa using HH.out
  case k2 => rw [List.length_map, ← Hn.out]; exact (Nat.min_self _).symm
  case k3 =>
    intro h0
    have h0' : 0 < zs.length := by simpa using h0
    obtain ⟨g, o, rfl, _⟩ := H.out 0 h0'
    refine ⟨_, rfl, fun j v hj => ?_⟩
    have hj' : j < zs.length := by have := (List.getElem?_eq_some_iff.1 hj).1; simpa using this
    obtain ⟨g', o', e, hc⟩ := H.out j hj'
    obtain ⟨rfl, rfl⟩ : g = g' ∧ o = o' := by simpa using e
    have hl := lt_of_cell hc
    have ha : (⟨g, o, none⟩ : Addr).add j = ⟨g, o + j, none⟩ := by
      unfold Addr.add; split
      · rename_i h; rw [h]; rfl
      · rfl
    rw [ha, hb1.cell (p := ⟨g, o + j, none⟩) hl, hc]
    simp [List.getElem?_eq_getElem hj'] at hj
    rw [← hj, nth_eq zs j hj']
  case k4 => have := HCS.out; have := Hn.out; simp; omega
  case k5 => intro v hv; simp at hv; obtain ⟨x, _, rfl⟩ := hv; rfl
  intro w2 hw2 hb2
  have hB : w.heap.size + 1 < w2.heap.size := by
    have h := hw2.out
    by_cases hl : w.heap.size + 1 < w2.heap.size
    · exact hl
    · have : w2.heap[w.heap.size + 1]? = none := by simp; omega
      rw [this] at h; cases h
  go_wp2_with fail
  go_returns
  refine ⟨w.heap.size + 1, rfl, by omega, hB, ⟨_, hw2.out, ?_, fun j hj => ?_⟩, hb1.trans (hb2.mono (by omega))⟩
  · have := HCS.out; have := Hn.out
    simp [splice]; omega
  · simp [splice]
    rw [List.getElem?_append_left (by simpa using hj)]
    simp [hj, nth_eq zs j hj]

/-- Text j has at place i what text 0 has. -/
def SameAt (Z : Nat → List Int) (j i : Nat) : Prop := i < (Z j).length ∧ nth (Z j) i = nth (Z 0) i
/-- c is the length of the longest head that the first m texts share. -/
def IsCommon (Z : Nat → List Int) (m c : Nat) : Prop := c ≤ (Z 0).length ∧ (∀ i, i < c → ∀ j, j < m → SameAt Z j i) ∧ (c = (Z 0).length ∨ ∃ j, j < m ∧ ¬ SameAt Z j c)

theorem IsCommon.unique {Z : Nat → List Int} {m c c' : Nat} (h : IsCommon Z m c) (h' : IsCommon Z m c') : c = c' := by
  obtain ⟨a1, a2, a3⟩ := h
  obtain ⟨b1, b2, b3⟩ := h'
  rcases Nat.lt_trichotomy c c' with l | l | l
  · rcases a3 with e | ⟨j, hj, e⟩
    · omega
    · exact absurd (b2 c l j hj) e
  · exact l
  · rcases b3 with e | ⟨j, hj, e⟩
    · omega
    · exact absurd (a2 c' l j hj) e
end Go.Proofs.YtmkefndmiagoaaaDoor
