/- A list of texts that came in, as the walks are told of it; laws.zzFits1. -/
import Derived.Test.YtjdphehphceegaaWords
namespace Go.Proofs.Ytjdphehphceegaa
open Go.RowKit
set_option linter.unusedVariables false
set_option linter.unusedSimpArgs false

/-- A list's text at a place; the empty one beyond. -/
def txt (ss : List ByteArray) (k : Nat) : ByteArray := ss.getD k ByteArray.empty
theorem txt_mem (ss : List ByteArray) (k : Nat) (h : k < ss.length) : txt ss k ∈ ss := by simp [txt, h]
theorem mem_txt (ss : List ByteArray) (s : ByteArray) (h : s ∈ ss) : ∃ k, k < ss.length ∧ s = txt ss k := by
  obtain ⟨k, hk, rfl⟩ := List.getElem_of_mem h
  exact ⟨k, hk, by simp [txt, hk]⟩

/-- What the walks are told of a slice of strings: nothing in it, or its cells up to its length. -/
def IsStrs (w : World) (a : Option Addr) (ss : List ByteArray) : Prop :=
  ss = [] ∨ ∃ b off, a = some ⟨b, off, none⟩ ∧ b < w.heap.size ∧ ∀ i, i < ss.length → w.cell? ⟨b, off + i, none⟩ = some (.string (txt ss i))

theorem IsStrs.below {w w' : World} {a : Option Addr} {ss : List ByteArray} (h : IsStrs w a ss) (hb : Below w.heap.size w w') : IsStrs w' a ss := by
  rcases h with h | ⟨b, off, ha, hl, hc⟩
  · exact .inl h
  · exact .inr ⟨b, off, ha, Nat.lt_of_lt_of_le hl hb.size, fun i hi => (hb.cell (p := ⟨b, off + i, none⟩) hl).trans (hc i hi)⟩

def FitsPost (ss : List ByteArray) (w : World) (e : Ending) (w' : World) : Prop :=
  ∃ b, e = .returned (.bool b) ∧ (b = true ↔ ss.length ≤ 2147483647 ∧ ∀ s ∈ ss, s.size ≤ 2147483647) ∧ w' = w

theorem fits1_any (a : Option Addr) (cap : Nat) (ss : List ByteArray) (w : World) (h : IsStrs w a ss) :
    Calls Try.prog 4 #[.slice a ss.length cap] w (FitsPost ss w) := by
  obtain ⟨n, hn⟩ : ∃ n, n = ss.length := ⟨_, rfl⟩
  have Hn := Go.Lib.hid hn
  have HH := Go.Lib.hid h
  rw [← hn]
  clear hn h
  by_cases hL : (2147483647 : Int) < n
  · go_enter Try.func4, Try.ntmps4
    go_wp2
    go_returns
    exact ⟨false, rfl, ⟨(fun h => by cases h), fun h => absurd h.1 (by have := Hn.out; omega)⟩, rfl⟩
  have hl : n ≤ 2147483647 := by omega
  go_enter Try.func4, Try.ntmps4
  go_wp2
  go_loop [10] (fun i => ∃ k : Nat, k ≤ n ∧ i = .int .i64 k ∧ Hid (∀ j, j < k → (txt ss j).size ≤ 2147483647)) (fun i => n - (intOf i).toNat)
  case atStart => exact ⟨0, Nat.zero_le _, rfl, fun j hj => by omega⟩
  case round =>
    obtain ⟨k, hk, rfl, HG⟩ := hrel
    by_cases hlt : k < n
    · rcases HH.out with e | ⟨b, off, rfl, hbl, hc⟩
      · have := Hn.out; rw [e] at this; simp at this; omega
      have hck : w.cell? ⟨b, off + k, none⟩ = some (.string (txt ss k)) := hc k (by rw [← Hn.out]; exact hlt)
      clear hc
      by_cases h3 : (2147483647 : Int) < (txt ss k).size
      · go_wp2
        go_returns
        exact ⟨false, rfl, ⟨(fun h => by cases h), fun h => absurd (h.2 _ (txt_mem ss k (by rw [← Hn.out]; exact hlt))) (by omega)⟩, rfl⟩
      · have H3 : Hid ((txt ss k).size ≤ 2147483647) := Go.Lib.hid (by omega)
        go_wp2
        go_round
        case rel => exact ⟨k + 1, by omega, by go_num, fun j hj => by
          by_cases e : j < k
          · exact HG.out j e
          · obtain rfl : j = k := by omega
            exact H3.out⟩
        case measure => simp [intOf]; omega
    · have hv : n ≤ 2147483647 ∧ ∀ s ∈ ss, s.size ≤ 2147483647 := ⟨hl, fun s hs => by
        obtain ⟨j, hj, rfl⟩ := mem_txt ss s hs
        exact HG.out j (by have := Hn.out; omega)⟩
      have HV := Go.Lib.hid hv
      clear hv
      go_wp2
      go_returns
      exact ⟨true, rfl, ⟨fun _ => ⟨by rw [← Hn.out]; exact hl, HV.out.2⟩, fun _ => rfl⟩, rfl⟩

end Go.Proofs.Ytjdphehphceegaa
