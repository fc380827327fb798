/- The contracts of spec.Whole (a text of which it says true is UTF-8). -/
import Derived.Test.YtkljpbpojbhbbaaDoorTexts
namespace Go.Proofs.YtkljpbpojbhbbaaDoor
open Go.RowKit
set_option linter.unusedVariables false
set_option linter.unusedSimpArgs false

def WholePost (s : ByteArray) (w : World) (e : Ending) (w' : World) : Prop := ∃ b, e = .returned (.bool b) ∧ (b = true → Valid s) ∧ Below w.heap.size w w'

theorem whole_any (s : ByteArray) (w : World) (hs : s.size ≤ 2147483647) :
    Calls Tryd.prog 38 #[.string s] w (WholePost s w) := by
  go_enter Tryd.func38, Tryd.ntmps38
  go_wp2
  go_loopw [] (fun wr => ∃ k pos : Nat, wr = w.iter s pos ∧ Hid (pos = posAt s k) ∧ Hid (∀ j, j < k → GoodAt s (posAt s j))) (fun wr => s.size - wr.iterPos w.heap.size)
  case atStart => exact ⟨0, 0, rfl, rfl, fun j hj => by omega⟩
  case round =>
    obtain ⟨k, pos, rfl, HP, HG⟩ := hrel
    by_cases hp : pos < s.size
    · have hd1 := decode_le s pos
      have hw1 := width_pos s pos hp
      have hnx : ∀ ty, (Instr.next (.pointer (some ⟨w.heap.size, 0, none⟩)) true ty).run Tryd.prog (w.iter s pos) = _ := fun ty => run_next_any w s pos ty hp
      have HP' : Hid (pos + (Utf8.decode s pos).2 = posAt s (k + 1)) := by
        show _ = posAt s k + (Utf8.decode s (posAt s k)).2
        rw [← HP.out]
      have HG0 : ((Utf8.decode s pos).1 = 65533 → (s.extract pos (pos + 3)).toList = [239, 191, 189]) → Hid (∀ j, j < k + 1 → GoodAt s (posAt s j)) := fun h j hj => by
        by_cases e : j < k
        · exact HG.out j e
        · obtain rfl : j = k := by omega
          rw [← HP.out]; exact h
      obtain ⟨r, hr⟩ : ∃ r, r = (Utf8.decode s pos).1 := ⟨_, rfl⟩
      obtain ⟨wd, hwd⟩ : ∃ wd, wd = (Utf8.decode s pos).2 := ⟨_, rfl⟩
      rw [← hr] at hd1
      simp only [← hr, ← hwd] at hnx HG0 HP' hw1
      have HG1 := Go.Lib.hid HG0
      clear HG0 hr hwd
      by_cases h1 : (r : Int) = 65533
      · have h1' : ((r : Int) == 65533) = true := by simp [h1]
        clear h1
        by_cases h2 : ((s.size : Int) - pos) < 3
        · go_wp2
          go_returns
          exact ⟨false, rfl, (fun h => by cases h), (Below.refl _ _).alloc (Nat.le_refl _) _⟩
        · go_wp2
          · go_returns
            exact ⟨false, rfl, (fun h => by cases h), (Below.refl _ _).alloc (Nat.le_refl _) _⟩
          · rename_i h3
            have H3 : Hid ((s.extract pos (pos + 3)).toList = [239, 191, 189]) := Go.Lib.hid (by simpa using h3)
            go_roundw
            case rel => exact ⟨k + 1, pos + wd, rfl, HP', HG1.out fun _ => H3.out⟩
            case measure => simp; omega
      · have h1' : ((r : Int) == 65533) = false := by simp [h1]
        have H1 := Go.Lib.hid h1
        clear h1
        go_wp2
        go_roundw
        case rel => exact ⟨k + 1, pos + wd, rfl, HP', HG1.out fun e => absurd (by omega) H1.out⟩
        case measure => simp; omega
    · have hv : Valid s := valid_of s k HG.out (by rw [← HP.out]; omega)
      have HV := Go.Lib.hid hv
      clear hv
      have hnx : ∀ ty, (Instr.next (.pointer (some ⟨w.heap.size, 0, none⟩)) true ty).run Tryd.prog (w.iter s pos) = _ := fun ty => run_next_end w s pos ty hp
      go_wp2
      go_returns
      exact ⟨true, rfl, fun _ => HV.out, (Below.refl _ _).alloc (Nat.le_refl _) _⟩

/-- A list's text at a place; the empty one beyond. -/
def txt (ss : List ByteArray) (k : Nat) : ByteArray := ss.getD k ByteArray.empty
theorem txt_mem (ss : List ByteArray) (k : Nat) (h : k < ss.length) : txt ss k ∈ ss := by simp [txt, h]
theorem mem_txt (ss : List ByteArray) (s : ByteArray) (h : s ∈ ss) : ∃ k, k < ss.length ∧ s = txt ss k := by
  obtain ⟨k, hk, rfl⟩ := List.getElem_of_mem h
  exact ⟨k, hk, by simp [txt, hk]⟩

/-- What the walks are told of a slice of strings: nothing in it, or its cells up to its length. -/
def IsStrs (w : World) (a : Option Addr) (ss : List ByteArray) : Prop :=
  ss = [] ∨ ∃ b off, a = some ⟨b, off, none⟩ ∧ b < w.heap.size ∧ ∀ i, i < ss.length → w.cell? ⟨b, off + i, none⟩ = some (.string (txt ss i))

theorem IsStrs.below {w w' : World} {a : Option Addr} {ss : List ByteArray} (h : IsStrs w a ss) (hb : Below w.heap.size w w') : IsStrs w' a ss := by
  rcases h with h | ⟨b, off, ha, hl, hc⟩
  · exact .inl h
  · exact .inr ⟨b, off, ha, Nat.lt_of_lt_of_le hl hb.size, fun i hi => (hb.cell (p := ⟨b, off + i, none⟩) hl).trans (hc i hi)⟩

def AllPost (ss : List ByteArray) (w : World) (e : Ending) (w' : World) : Prop := ∃ b, e = .returned (.bool b) ∧ (b = true → ∀ s ∈ ss, s.size ≤ 300 ∧ Valid s) ∧ Below w.heap.size w w'

theorem whole9_any (a : Option Addr) (cap : Nat) (ss : List ByteArray) (w : World) (h : IsStrs w a ss) (hs : ∀ s ∈ ss, s.size ≤ 2147483647) (hl : ss.length ≤ 2147483647) :
    Calls Tryd.prog 11 #[.slice a ss.length cap] w (AllPost ss w) := by
  obtain ⟨n, hn⟩ : ∃ n, n = ss.length := ⟨_, rfl⟩
  rw [← hn] at hl ⊢
  have Hn := Go.Lib.hid hn
  have HS := Go.Lib.hid hs
  have HH := Go.Lib.hid h
  clear hn hs h
  go_enter Tryd.func11, Tryd.ntmps11
  go_wp2
  go_loopw [6] (fun i wr => ∃ k : Nat, k ≤ n ∧ i = .int .i64 k ∧ Below w.heap.size w wr ∧ Hid (∀ j, j < k → (txt ss j).size ≤ 300 ∧ Valid (txt ss j))) (fun i _ => n - (intOf i).toNat)
  case atStart => exact ⟨0, Nat.zero_le _, rfl, Below.refl _ _, fun j hj => by omega⟩
  case round =>
    obtain ⟨k, hk, rfl, hb, HG⟩ := hrel
    by_cases hlt : k < n
    · have hsz := HS.out (txt ss k) (txt_mem ss k (by rw [← Hn.out]; exact hlt))
      rcases HH.out with e | ⟨b, off, rfl, hbl, hc⟩
      · have := Hn.out; rw [e] at this; simp at this; omega
      have hck : wr.cell? ⟨b, off + k, none⟩ = some (.string (txt ss k)) := (hb.cell (p := ⟨b, off + k, none⟩) hbl).trans (hc k (by rw [← Hn.out]; exact hlt))
      clear hc
      by_cases h3 : (300 : Int) < (txt ss k).size
      · go_wp2_with fail
        go_returns
        exact ⟨false, rfl, (fun h => by cases h), hb⟩
      · go_wp2_with fail
        refine (whole_any (txt ss k) wr (by omega)).mono ?_
        rintro e w1 ⟨bv, rfl, hv, b1⟩
        have HV := Go.Lib.hid hv
        clear hv
        cases bv with
        | false =>
          go_wp2_with fail
          go_returns
          exact ⟨false, rfl, (fun h => by cases h), hb.trans (b1.mono hb.size)⟩
        | true =>
          go_wp2_with fail
          go_roundw
          case rel => exact ⟨k + 1, by omega, by go_num, hb.trans (b1.mono hb.size), fun j hj => by
            by_cases e : j < k
            · exact HG.out j e
            · obtain rfl : j = k := by omega
              exact ⟨by omega, HV.out trivial⟩⟩
          case measure => simp [intOf]; omega
    · have hv : ∀ s ∈ ss, s.size ≤ 300 ∧ Valid s := fun s hs => by
        obtain ⟨j, hj, rfl⟩ := mem_txt ss s hs
        exact HG.out j (by have := Hn.out; omega)
      have HV := Go.Lib.hid hv
      clear hv
      go_wp2_with fail
      go_returns
      exact ⟨true, rfl, fun _ => HV.out, hb⟩

theorem whole9_one (g : Nat) (s : ByteArray) (w : World) (hc : w.cell? ⟨g, 0, none⟩ = some (.string s)) (hs : s.size ≤ 2147483647) :
    Calls Tryd.prog 11 #[.slice (some ⟨g, 0, none⟩) 1 1] w fun e w' => ∃ b, e = .returned (.bool b) ∧ (b = true → s.size ≤ 300 ∧ Valid s) ∧ Below w.heap.size w w' := by
  refine (whole9_any (some ⟨g, 0, none⟩) 1 [s] w (.inr ⟨g, 0, rfl, lt_of_cell hc, fun i hi => ?_⟩) (by simpa using hs) (by simp)).mono ?_
  · obtain rfl : i = 0 := by simpa using hi
    simpa [txt] using hc
  · rintro e w' ⟨b, he, hb, hw⟩
    exact ⟨b, he, fun h => hb h s (by simp), hw⟩
end Go.Proofs.YtkljpbpojbhbbaaDoor
