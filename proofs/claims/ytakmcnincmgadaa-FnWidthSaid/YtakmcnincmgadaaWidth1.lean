/- PrintableRuneWidth and spec.Width. -/
import Derived.Test.YtakmcnincmgadaaAsciiText
import Derived.Laws.RangeString
namespace Go.Proofs.Ytakmcnincmgadaa
open Go.RowKit
set_option linter.unusedVariables false
set_option linter.unusedSimpArgs false

/-- The bytes of a text. -/
def bs (s : ByteArray) : List Nat := s.data.toList.map (·.toNat)
theorem bs_length (s : ByteArray) : (bs s).length = s.size := by simp [bs]
theorem bs_get (s : ByteArray) (i : Nat) (h : i < s.size) : (bs s)[i]? = some (s[i]'h).toNat := by
  have e : s[i]'h = s.data.toList[i]'(by simpa using h) := by simp; rfl
  simp [bs, e, List.getElem?_eq_getElem, h]
theorem bs_take (s : ByteArray) (i : Nat) (h : i < s.size) : (bs s).take (i + 1) = (bs s).take i ++ [(s[i]'h).toNat] := by
  rw [List.take_add_one, bs_get s i h]; rfl

def ends (b : Nat) : Bool := decide (64 ≤ b ∧ b ≤ 90) || decide (97 ≤ b ∧ b ≤ 122)
def room (b : Nat) : Nat := if b < 32 ∨ (127 ≤ b ∧ b ≤ 159) ∨ b = 173 then 0 else 1
def stp (p : Nat × Bool) (b : Nat) : Nat × Bool := if b = 27 then (p.1, true) else if p.2 then (p.1, !ends b) else (p.1 + room b, false)
def st (l : List Nat) : Nat × Bool := l.foldl stp (0, false)
theorem st_more (l : List Nat) (b : Nat) : st (l ++ [b]) = stp (st l) b := by simp [st]
theorem st_le (l : List Nat) : (st l).1 ≤ l.length := by
  have h : ∀ (l : List Nat) (p : Nat × Bool), (l.foldl stp p).1 ≤ p.1 + l.length := by
    intro l
    induction l with
    | nil => intro p; simp
    | cons b l ih =>
      intro p
      have := ih (stp p b)
      have h3 : room b ≤ 1 := by unfold room; split <;> omega
      have h2 : (stp p b).1 ≤ p.1 + 1 := by
        unfold stp
        split
        · exact Nat.le_succ _
        · split
          · exact Nat.le_succ _
          · exact Nat.add_le_add_left h3 _
      simp only [List.foldl_cons, List.length_cons]; omega
  simpa [st] using h l (0, false)

theorem ends_any (b : Nat) (w : World) (hb : b < 128) : Calls Try.prog 10 #[.int .i32 (b : Nat)] w fun e w' => e = .returned (.bool (ends b)) ∧ w = w' := by
  have key : ∀ b, b < 128 → ∀ w, Calls Try.prog 10 #[.int .i32 (b : Nat)] w fun e w' => e = .returned (.bool (ends b)) ∧ w = w' := fun b hb w => by
    by_cases h1 : 64 ≤ b
    · by_cases h2 : b ≤ 90
      · have e : ends b = true := by simp [ends, h1, h2]
        rw [e]
        have q1 : ¬ (b : Int) < 64 := by omega
        have q2 : (b : Int) ≤ 90 := by omega
        have q3 : (64 : Int) ≤ b := by omega
        go_enter Try.func10, Try.ntmps10
        go_wp2_with fail
        go_returns
        exact ⟨rfl, rfl⟩
      · by_cases h3 : 97 ≤ b ∧ b ≤ 122
        · have e : ends b = true := by simp [ends, h3]
          rw [e]
          have q2 : ¬ (b : Int) ≤ 90 := by omega
          have q3 : (64 : Int) ≤ b := by omega
          have q4 : (97 : Int) ≤ b := by omega
          have q5 : (b : Int) ≤ 122 := by omega
          go_enter Try.func10, Try.ntmps10
          go_wp2_with fail
          go_returns
          exact ⟨rfl, rfl⟩
        · have e : ends b = false := by simp [ends]; omega
          rw [e]
          have q2 : ¬ (b : Int) ≤ 90 := by omega
          have q3 : (64 : Int) ≤ b := by omega
          by_cases h4 : 97 ≤ b
          · have q4 : (97 : Int) ≤ b := by omega
            have q5 : ¬ (b : Int) ≤ 122 := by omega
            go_enter Try.func10, Try.ntmps10
            go_wp2_with fail
            go_returns
            exact ⟨rfl, rfl⟩
          · have q4 : ¬ (97 : Int) ≤ b := by omega
            go_enter Try.func10, Try.ntmps10
            go_wp2_with fail
            go_returns
            exact ⟨rfl, rfl⟩
    · have e : ends b = false := by simp [ends]; omega
      rw [e]
      have q3 : ¬ (64 : Int) ≤ b := by omega
      have q4 : ¬ (97 : Int) ≤ b := by omega
      go_enter Try.func10, Try.ntmps10
      go_wp2_with fail
      go_returns
      exact ⟨rfl, rfl⟩
  exact key b hb w

theorem room_any (b : Nat) (w : World) (hb : b < 128) : Calls Try.prog 11 #[.int .i32 (b : Nat)] w fun e w' => e = .returned (.int .i64 (room b : Nat)) ∧ w = w' := by
  by_cases h1 : b < 32
  · have e : room b = 0 := by unfold room; rw [if_pos (by omega)]
    rw [e]
    have q1 : (b : Int) < 32 := by omega
    go_enter Try.func11, Try.ntmps11
    go_wp2_with fail
    go_returns
    exact ⟨rfl, rfl⟩
  · by_cases h2 : b = 127
    · have e : room b = 0 := by unfold room; rw [if_pos (by omega)]
      rw [e]
      subst h2
      go_enter Try.func11, Try.ntmps11
      go_wp2_with fail
      go_returns
      exact ⟨rfl, rfl⟩
    · have e : room b = 1 := by unfold room; rw [if_neg (by omega)]
      rw [e]
      have q1 : ¬ (b : Int) < 32 := by omega
      have q2 : ¬ (127 : Int) ≤ b := by omega
      have q3 : ((b : Int) == 173) = false := by simp; omega
      go_enter Try.func11, Try.ntmps11
      go_wp2_with fail
      go_returns
      exact ⟨rfl, rfl⟩

def WidthPost (n : Nat) (w : World) (e : Ending) (w' : World) : Prop := e = .returned (.int .i64 (n : Nat)) ∧ Below w.heap.size w w'

theorem printable_any (s : ByteArray) (w : World) (ha : IsAscii s) (hs : s.size ≤ 2000) :
    Calls Try.prog 8 #[.string s] w (WidthPost (st (bs s)).1 w) := by
  have HA := Go.Lib.hid ha
  clear ha
  go_enter Try.func8, Try.ntmps8
  go_wp2_with fail
  go_loopw [3, 4] (fun n a wr => ∃ (pos x : Nat) (y : Bool), pos ≤ s.size ∧ n = .int .i64 (x : Nat) ∧ a = .bool y ∧ wr = w.iter s pos ∧ Hid (st ((bs s).take pos) = (x, y))) (fun _ _ wr => s.size - wr.iterPos w.heap.size)
  case atStart => exact ⟨0, 0, false, Nat.zero_le _, rfl, rfl, rfl, rfl⟩
  case round =>
    obtain ⟨pos, x, y, hpos, rfl, rfl, rfl, HST⟩ := hrel
    by_cases hp : pos < s.size
    · have h128 := HA.out.at pos hp
      have hnx : ∀ ty, (Instr.next (.pointer (some ⟨w.heap.size, 0, none⟩)) true ty).run Try.prog (w.iter s pos) = _ := fun ty => run_next_any w s pos ty hp
      rw [decode_ascii s pos hp h128] at hnx
      have hx : x ≤ 2000 := by
        have := st_le ((bs s).take pos)
        rw [HST.out] at this
        simp at this; omega
      have HN : Hid (st ((bs s).take (pos + 1)) = stp (x, y) (s[pos]'hp).toNat) := by
        show _ = _
        rw [bs_take s pos hp, st_more, HST.out]
      generalize (s[pos]'hp).toNat = b at hnx HN h128
      have HE := Go.Lib.hid (fun w => ends_any b w h128)
      have HR := Go.Lib.hid (fun w => room_any b w h128)
      by_cases h1 : b = 27
      · have HN1 : Hid (st ((bs s).take (pos + 1)) = (x, true)) := by
          rw [HN.out]; show _ = _; unfold stp; rw [if_pos h1]
        subst h1
        clear HN
        go_wp2_with fail
        go_roundw
        case rel => exact ⟨pos + 1, x, true, by omega, rfl, rfl, rfl, HN1.out⟩
        case measure => simp; omega
      · have h1' : ((b : Int) == 27) = false := by simp; omega
        cases y
        · have HN1 : Hid (st ((bs s).take (pos + 1)) = (x + room b, false)) := by
            rw [HN.out]; show _ = _; unfold stp; rw [if_neg h1]; rfl
          have hr1 : room b ≤ 1 := by unfold room; split <;> omega
          have hw : IntKind.i64.wrap ((x : Int) + (room b : Int)) = ((x + room b : Nat) : Int) := by rw [IntWalk.i64_in _ (by omega)]; omega
          generalize room b = rb at HN1 hr1 hw HR
          obtain ⟨x2, hx2⟩ : ∃ x2, x2 = x + rb := ⟨_, rfl⟩
          rw [← hx2] at HN1 hw
          clear HN h1 hx2
          go_wp2_with fail
          refine (HR.out _).mono ?_
          rintro e w2 ⟨rfl, rfl⟩
          go_wp2_with fail
          go_roundw
          case rel => exact ⟨pos + 1, x2, false, by omega, rfl, rfl, rfl, HN1.out⟩
          case measure => simp; omega
        · have HN1 : Hid (st ((bs s).take (pos + 1)) = (x, !ends b)) := by
            rw [HN.out]; show _ = _; unfold stp; rw [if_neg h1]; rfl
          generalize ends b = eb at HN1 HE
          clear HN h1
          go_wp2_with fail
          refine (HE.out _).mono ?_
          rintro e w2 ⟨rfl, rfl⟩
          cases eb
          · go_wp2_with fail
            go_roundw
            case rel => exact ⟨pos + 1, x, true, by omega, rfl, rfl, rfl, HN1.out⟩
            case measure => simp; omega
          · go_wp2_with fail
            go_roundw
            case rel => exact ⟨pos + 1, x, false, by omega, rfl, rfl, rfl, HN1.out⟩
            case measure => simp; omega
    · have HX : Hid ((st (bs s)).1 = x) := by
        have := HST.out
        rw [List.take_of_length_le (by rw [bs_length]; omega)] at this
        show _ = _
        rw [this]
      have hnx : ∀ ty, (Instr.next (.pointer (some ⟨w.heap.size, 0, none⟩)) true ty).run Try.prog (w.iter s pos) = _ := fun ty => run_next_end w s pos ty hp
      go_wp2_with fail
      go_returns
      exact ⟨by rw [HX.out]; rfl, (Below.refl _ _).alloc (Nat.le_refl _) _⟩

/-- Signs that are no line feed. -/
def signs (l : List Nat) : Nat := (l.filter (· ≠ 10)).length
theorem signs_more (l : List Nat) (b : Nat) : signs (l ++ [b]) = signs l + (if b = 10 then 0 else 1) := by
  unfold signs; rw [List.filter_append]; by_cases h : b = 10 <;> simp [h]
theorem signs_le (l : List Nat) : signs l ≤ l.length := List.length_filter_le _ _

theorem width_spec (s : ByteArray) (w : World) (hs : s.size ≤ 2000) : Calls Try.prog 6 #[.string s] w fun e w' => e = .returned (.int .i64 (signs (bs s) : Nat)) ∧ w = w' := by
  go_enter Try.func6, Try.ntmps6
  go_wp2_with fail
  go_loop [3, 4] (fun n i => ∃ (j x : Nat), j ≤ s.size ∧ n = .int .i64 (x : Nat) ∧ i = .int .i64 j ∧ Hid (signs ((bs s).take j) = x)) (fun _ i => s.size - (intOf i).toNat)
  case atStart => exact ⟨0, 0, Nat.zero_le _, rfl, rfl, rfl⟩
  case round =>
    obtain ⟨j, x, hj, rfl, rfl, HS⟩ := hrel
    by_cases hlt : j < s.size
    · have HN : Hid (signs ((bs s).take (j + 1)) = x + (if (s[j]'hlt).toNat = 10 then 0 else 1)) := by
        show _ = _
        rw [bs_take s j hlt, signs_more, HS.out]
      have hx : x ≤ 2000 := by
        have := signs_le ((bs s).take j)
        rw [HS.out] at this
        simp at this; omega
      have hj0 : (0 : Int) ≤ j := by omega
      have hj1 : (j : Int) < s.size := by omega
      by_cases h10 : (s[j]'hlt).toNat = 10
      · have HN1 : Hid (signs ((bs s).take (j + 1)) = x) := by rw [HN.out, if_pos h10]; rfl
        have e1 : (((s[j]'hlt).toNat : Int) != 10) = false := by simp [h10]
        clear HN h10
        go_wp2_with fail
        go_round
        case rel => exact ⟨j + 1, x, by omega, rfl, by go_num, HN1.out⟩
        case measure => simp [intOf]; omega
      · obtain ⟨x2, hx2⟩ : ∃ x2, x2 = x + 1 := ⟨_, rfl⟩
        have HN1 : Hid (signs ((bs s).take (j + 1)) = x2) := by rw [HN.out, if_neg h10, hx2]; rfl
        have e1 : (((s[j]'hlt).toNat : Int) != 10) = true := by simp; omega
        have hw : IntKind.i64.wrap ((x : Int) + 1) = (x2 : Int) := by rw [IntWalk.i64_in _ (by omega)]; omega
        clear HN h10 hx2
        go_wp2_with fail
        go_round
        case rel => exact ⟨j + 1, x2, by omega, rfl, by go_num, HN1.out⟩
        case measure => simp [intOf]; omega
    · have HX : Hid (signs (bs s) = x) := by
        have := HS.out
        rw [List.take_of_length_le (by rw [bs_length]; omega)] at this
        exact this
      have hj1 : ¬ (j : Int) < s.size := by omega
      go_wp2_with fail
      go_returns
      exact ⟨by rw [HX.out]; rfl, rfl⟩

/-- Of a plain text: line feeds, and signs from the blank to the tilde. -/
def PlainPost (s : ByteArray) (w : World) (e : Ending) (w' : World) : Prop := ∃ b, e = .returned (.bool b) ∧ (b = true → ∀ i, i < s.size → ∀ c, (bs s)[i]? = some c → c = 10 ∨ (32 ≤ c ∧ c ≤ 126)) ∧ w = w'
theorem plain_any (s : ByteArray) (w : World) (hs : s.size ≤ 2000) : Calls Try.prog 9 #[.string s] w (PlainPost s w) := by
  go_enter Try.func9, Try.ntmps9
  go_wp2_with fail
  go_loop [3] (fun i => ∃ j : Nat, j ≤ s.size ∧ i = .int .i64 j ∧ Hid (∀ i, i < j → ∀ c, (bs s)[i]? = some c → c = 10 ∨ (32 ≤ c ∧ c ≤ 126))) (fun i => s.size - (intOf i).toNat)
  case atStart => exact ⟨0, Nat.zero_le _, rfl, fun i hi => by omega⟩
  case round =>
    obtain ⟨j, hj, rfl, HS⟩ := hrel
    by_cases hlt : j < s.size
    · have hj0 : (0 : Int) ≤ j := by omega
      have hj1 : (j : Int) < s.size := by omega
      have HG := Go.Lib.hid (bs_get s j hlt)
      have HN : Hid (((s[j]'hlt).toNat = 10 ∨ (32 ≤ (s[j]'hlt).toNat ∧ (s[j]'hlt).toNat ≤ 126)) → ∀ i, i < j + 1 → ∀ c, (bs s)[i]? = some c → c = 10 ∨ (32 ≤ c ∧ c ≤ 126)) := fun h i hi c hc => by
        by_cases e : i < j
        · exact HS.out i e c hc
        · obtain rfl : i = j := by omega
          rw [HG.out] at hc
          cases hc; exact h
      by_cases h10 : (s[j]'hlt).toNat = 10
      · have e1 : (((s[j]'hlt).toNat : Int) != 10) = false := by simp [h10]
        have HN1 := Go.Lib.hid (HN.out (.inl h10))
        clear h10
        go_wp2_with fail
        go_round
        case rel => exact ⟨j + 1, by omega, by go_num, HN1.out⟩
        case measure => simp [intOf]; omega
      · have e1 : (((s[j]'hlt).toNat : Int) != 10) = true := by simp; omega
        clear h10
        by_cases h32 : ((s[j]'hlt).toNat : Int) < 32
        · go_wp2_with fail
          go_returns
          exact ⟨false, rfl, (fun h => by cases h), rfl⟩
        · by_cases h126 : (126 : Int) < ((s[j]'hlt).toNat : Int)
          · go_wp2_with fail
            go_returns
            exact ⟨false, rfl, (fun h => by cases h), rfl⟩
          · have HN1 := Go.Lib.hid (HN.out (.inr ⟨by omega, by omega⟩))
            go_wp2_with fail
            go_round
            case rel => exact ⟨j + 1, by omega, by go_num, HN1.out⟩
            case measure => simp [intOf]; omega
    · have hj1 : ¬ (j : Int) < s.size := by omega
      have HX : Hid (∀ i, i < s.size → ∀ c, (bs s)[i]? = some c → c = 10 ∨ (32 ≤ c ∧ c ≤ 126)) := fun i hi => HS.out i (by omega)
      go_wp2_with fail
      go_returns
      exact ⟨true, rfl, fun _ => HX.out, rfl⟩
end Go.Proofs.Ytakmcnincmgadaa
