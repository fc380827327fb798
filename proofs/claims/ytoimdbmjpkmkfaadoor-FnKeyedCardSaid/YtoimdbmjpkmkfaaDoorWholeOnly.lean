/- The contracts of spec.Whole (a text of which it says true is UTF-8). -/
import Derived.Test.YtoimdbmjpkmkfaaDoorKeyBase
namespace Go.Proofs.YtoimdbmjpkmkfaaDoor
open Go.RowKit
set_option linter.unusedVariables false
set_option linter.unusedSimpArgs false

def WholePost (s : ByteArray) (w : World) (e : Ending) (w' : World) : Prop := ∃ b, e = .returned (.bool b) ∧ (b = true → Valid s) ∧ Below w.heap.size w w'

theorem whole_any (s : ByteArray) (w : World) (hs : s.size ≤ 2147483647) :
    Calls Tryd.prog 26 #[.string s] w (WholePost s w) := by
  go_enter Tryd.func26, Tryd.ntmps26
  go_wp2
  go_loopw [] (fun wr => ∃ k pos : Nat, wr = w.iter s pos ∧ Hid (pos = posAt s k) ∧ Hid (∀ j, j < k → GoodAt s (posAt s j))) (fun wr => s.size - wr.iterPos w.heap.size)
  case atStart => exact ⟨0, 0, rfl, rfl, fun j hj => by omega⟩
  case round =>
    obtain ⟨k, pos, rfl, HP, HG⟩ := hrel
    by_cases hp : pos < s.size
    · have hd1 := decode_le s pos
      have hw1 := width_pos s pos hp
      have hnx : ∀ ty, (Instr.next (.pointer (some ⟨w.heap.size, 0, none⟩)) true ty).run Tryd.prog (w.iter s pos) = _ := fun ty => run_next_any w s pos ty hp
      have HP' : Hid (pos + (Utf8.decode s pos).2 = posAt s (k + 1)) := by
        show _ = posAt s k + (Utf8.decode s (posAt s k)).2
        rw [← HP.out]
      have HG0 : ((Utf8.decode s pos).1 = 65533 → (s.extract pos (pos + 3)).toList = [239, 191, 189]) → Hid (∀ j, j < k + 1 → GoodAt s (posAt s j)) := fun h j hj => by
        by_cases e : j < k
        · exact HG.out j e
        · obtain rfl : j = k := by omega
          rw [← HP.out]; exact h
      obtain ⟨r, hr⟩ : ∃ r, r = (Utf8.decode s pos).1 := ⟨_, rfl⟩
      obtain ⟨wd, hwd⟩ : ∃ wd, wd = (Utf8.decode s pos).2 := ⟨_, rfl⟩
      rw [← hr] at hd1
      simp only [← hr, ← hwd] at hnx HG0 HP' hw1
      have HG1 := Go.Lib.hid HG0
      clear HG0 hr hwd
      by_cases h1 : (r : Int) = 65533
      · have h1' : ((r : Int) == 65533) = true := by simp [h1]
        clear h1
        by_cases h2 : ((s.size : Int) - pos) < 3
        · go_wp2
          go_returns
          exact ⟨false, rfl, (fun h => by cases h), (Below.refl _ _).alloc (Nat.le_refl _) _⟩
        · go_wp2
          · go_returns
            exact ⟨false, rfl, (fun h => by cases h), (Below.refl _ _).alloc (Nat.le_refl _) _⟩
          · rename_i h3
            have H3 : Hid ((s.extract pos (pos + 3)).toList = [239, 191, 189]) := Go.Lib.hid (by simpa using h3)
            go_roundw
            case rel => exact ⟨k + 1, pos + wd, rfl, HP', HG1.out fun _ => H3.out⟩
            case measure => simp; omega
      · have h1' : ((r : Int) == 65533) = false := by simp [h1]
        have H1 := Go.Lib.hid h1
        clear h1
        go_wp2
        go_roundw
        case rel => exact ⟨k + 1, pos + wd, rfl, HP', HG1.out fun e => absurd (by omega) H1.out⟩
        case measure => simp; omega
    · have hv : Valid s := valid_of s k HG.out (by rw [← HP.out]; omega)
      have HV := Go.Lib.hid hv
      clear hv
      have hnx : ∀ ty, (Instr.next (.pointer (some ⟨w.heap.size, 0, none⟩)) true ty).run Tryd.prog (w.iter s pos) = _ := fun ty => run_next_end w s pos ty hp
      go_wp2
      go_returns
      exact ⟨true, rfl, fun _ => HV.out, (Below.refl _ _).alloc (Nat.le_refl _) _⟩

end Go.Proofs.YtoimdbmjpkmkfaaDoor
