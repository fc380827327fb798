/- spec.ASCII, zzFits2, spec.DocRight, impl.document: what the statements on documents begin with. -/
import Derived.Test.YtedjjimabchffaaAsciiText
import Derived.Deep.RegionWith
import Derived.Deep.RegionHeld3
import Derived.Deep.QuietTactic
import Derived.BigQuiet
import Derived.WalkSmall
namespace Go.Proofs.Ytedjjimabchffaa
open Go.RowKit
set_option linter.unusedVariables false
set_option linter.unusedSimpArgs false

/-- A text of ASCII of at most 1000 bytes. -/
def Small (s : ByteArray) : Prop := IsAscii s ∧ s.size ≤ 1000

def AsciiPost (s : ByteArray) (w : World) (e : Ending) (w' : World) : Prop := ∃ b, e = .returned (.bool b) ∧ (b = true ↔ Small s) ∧ w = w'

theorem ascii_any (s : ByteArray) (w : World) (hs : s.size ≤ 9223372036854775807) : Calls Try.prog 12 #[.string s] w (AsciiPost s w) := by
  go_enter Try.func12, Try.ntmps12
  go_wp2
  go_loop [3] (fun i => ∃ k : Nat, k ≤ s.size ∧ i = .int .i64 k ∧ Hid (∀ (j : Nat) (hj : j < s.size), j < k → (s[j]'hj).toNat < 128)) (fun i => s.size - (intOf i).toNat)
  case atStart => exact ⟨0, Nat.zero_le _, rfl, fun j hj h => by omega⟩
  case round =>
    obtain ⟨k, hk, rfl, HN⟩ := hrel
    by_cases hlt : k < s.size
    · by_cases c1 : (128 : Int) ≤ (s[k].toNat : Int)
      · have HS : Hid (¬ Small s) := fun h => by have := h.1.at k hlt; omega
        go_wp2_with fail
        go_returns
        exact ⟨false, rfl, ⟨(fun h => by cases h), fun h => absurd h HS.out⟩, rfl⟩
      · have C1 := Go.Lib.hid c1
        go_wp2_with fail
        go_round
        case rel => exact ⟨k + 1, by omega, by go_num, fun j hj h => by
          by_cases e : j < k
          · exact HN.out j hj e
          · obtain rfl : j = k := by omega
            have := C1.out; omega⟩
        case measure => simp [intOf]; omega
    · have ha : IsAscii s := isAscii_of s fun i hi => HN.out i hi (by omega)
      have HA := Go.Lib.hid ha
      clear ha
      by_cases h3 : (s.size : Int) ≤ 1000
      · go_wp2_with fail
        go_returns
        exact ⟨true, rfl, ⟨fun _ => ⟨HA.out, by omega⟩, fun _ => rfl⟩, rfl⟩
      · go_wp2_with fail
        go_returns
        exact ⟨false, rfl, ⟨(fun h => by cases h), fun h => absurd h.2 (by omega)⟩, rfl⟩

theorem ascii_yes (s : ByteArray) (w : World) (h : Small s) : Calls Try.prog 12 #[.string s] w fun e w' => e = .returned (.bool true) ∧ w = w' :=
  (ascii_any s w (by have := h.2; omega)).mono fun _ _ ⟨b, he, hb, hw⟩ => by
    obtain rfl := hb.2 h
    exact ⟨he, hw⟩
theorem ascii_no (s : ByteArray) (w : World) (hs : s.size ≤ 9223372036854775807) (h : ¬ Small s) : Calls Try.prog 12 #[.string s] w fun e w' => e = .returned (.bool false) ∧ w = w' :=
  (ascii_any s w hs).mono fun _ _ ⟨b, he, hb, hw⟩ => by
    cases b
    · exact ⟨he, hw⟩
    · exact absurd (hb.1 rfl) h

theorem fits2_yes (s : ByteArray) (at_ : Int) (w : World) (hs : s.size ≤ 2147483647) :
    Calls Try.prog 8 #[.agg #[.string s, .int .i64 at_]] w fun e w' => e = .returned (.bool true) ∧ w' = w.alloc (.cells #[.string s, .int .i64 at_] 23) := by
  go_enter Try.func8, Try.ntmps8
  go_wp2_with fail
  go_returns
  exact ⟨rfl, rfl⟩

theorem fits2_no (s : ByteArray) (at_ : Int) (w : World) (hs : 2147483647 < (s.size : Int)) (hm : (s.size : Int) ≤ 9223372036854775807) :
    Calls Try.prog 8 #[.agg #[.string s, .int .i64 at_]] w fun e w' => e = .returned (.bool false) ∧ w' = w.alloc (.cells #[.string s, .int .i64 at_] 23) := by
  go_enter Try.func8, Try.ntmps8
  go_wp2_with fail
  go_returns
  exact ⟨rfl, rfl⟩

/-- A document that is looked at. -/
def Right (s : ByteArray) (at_ : Int) : Prop := Small s ∧ 0 ≤ at_ ∧ at_ ≤ s.size

theorem right_yes (s : ByteArray) (at_ : Int) (w : World) (h : Right s at_) :
    Calls Try.prog 9 #[.agg #[.string s, .int .i64 at_]] w fun e w' => e = .returned (.bool true) ∧ w' = w.alloc (.cells #[.string s, .int .i64 at_] 23) := by
  obtain ⟨hs, h1, h2⟩ := h
  have HS := Go.Lib.hid hs
  clear hs
  go_enter Try.func9, Try.ntmps9
  go_wp2_with fail
  refine (ascii_yes s _ HS.out).mono ?_
  rintro e w1 ⟨rfl, rfl⟩
  go_wp2_with fail
  go_returns
  exact ⟨rfl, rfl⟩

theorem right_no (s : ByteArray) (at_ : Int) (w : World) (hs : s.size ≤ 9223372036854775807) (h : ¬ Right s at_) :
    Calls Try.prog 9 #[.agg #[.string s, .int .i64 at_]] w fun e w' => e = .returned (.bool false) ∧ w' = w.alloc (.cells #[.string s, .int .i64 at_] 23) := by
  by_cases ha : Small s
  · have HA := Go.Lib.hid ha
    by_cases h1 : 0 ≤ at_
    · have h2 : ¬ at_ ≤ s.size := fun e => h ⟨ha, h1, e⟩
      have h2' : decide (at_ ≤ (s.size : Int)) = false := decide_eq_false h2
      clear ha h
      go_enter Try.func9, Try.ntmps9
      go_wp2_with fail
      refine (ascii_yes s _ HA.out).mono ?_
      rintro e w1 ⟨rfl, rfl⟩
      go_wp2_with fail
      go_returns
      exact ⟨rfl, rfl⟩
    · clear ha h
      go_enter Try.func9, Try.ntmps9
      go_wp2_with fail
      refine (ascii_yes s _ HA.out).mono ?_
      rintro e w1 ⟨rfl, rfl⟩
      go_wp2_with fail
      go_returns
      exact ⟨rfl, rfl⟩
  · have HA := Go.Lib.hid ha
    clear ha h
    go_enter Try.func9, Try.ntmps9
    go_wp2_with fail
    refine (ascii_no s _ hs HA.out).mono ?_
    rintro e w1 ⟨rfl, rfl⟩
    go_wp2_with fail
    go_returns
    exact ⟨rfl, rfl⟩

/-- A document in a block: its text and its cursor. -/
def DocAt (w : World) (b : Nat) (s : ByteArray) (k : Nat) : Prop := w.cell? ⟨b, 0, none⟩ = some (.string s) ∧ w.cell? ⟨b, 1, none⟩ = some (.int .i64 (k : Nat)) ∧ b < w.heap.size

theorem DocAt.below {w w' : World} {b : Nat} {s : ByteArray} {k : Nat} (h : DocAt w b s k) (hb : Below w.heap.size w w') : DocAt w' b s k :=
  ⟨(hb.cell (p := ⟨b, 0, none⟩) h.2.2).trans h.1, (hb.cell (p := ⟨b, 1, none⟩) h.2.2).trans h.2.1, Nat.lt_of_lt_of_le h.2.2 hb.size⟩

theorem document_at (s : ByteArray) (k : Int) (w : World) : Calls Try.prog 24 #[.string s, .int .i64 k] w fun e w' => e = .returned (.pointer (some ⟨w.heap.size, 0, none⟩)) ∧ w' = w.alloc (.cells #[.string s, .int .i64 k] 55) := by
  go_enter Try.func24, Try.ntmps24
  go_wp2_with fail
  go_returns
  exact ⟨rfl, rfl⟩

def DocPost (s : ByteArray) (k : Nat) (w : World) (e : Ending) (w' : World) : Prop :=
  ∃ b, e = .returned (.tuple #[.pointer (some ⟨b, 0, none⟩), .bool true]) ∧ DocAt w' b s k ∧ w.heap.size ≤ b ∧ Below w.heap.size w w'

theorem document_any (s : ByteArray) (k : Nat) (w : World) (hs : Small s) (hk : k ≤ s.size) :
    Calls Try.prog 19 #[.agg #[.string s, .int .i64 (k : Nat)]] w (DocPost s k w) := by
  obtain ⟨ha, hsz⟩ := hs
  have hcv := fun w => run_runes (P := Try.prog) w 9 53 21 s Try.underlying9 Try.underlying53 Try.underlying21 (by omega)
  have hl := runes_ascii_length s ha
  rw [hl] at hcv
  clear ha hl
  have h0 : decide ((0 : Int) ≤ k) = true := by simp
  go_enter Try.func19, Try.ntmps19
  go_wp2_with fail
  refine wp_region_held_drew (S := (fun w' => w'.cell? ⟨w.heap.size, 0, none⟩ = some (.string s) ∧ w'.cell? ⟨w.heap.size, 1, none⟩ = some (.int .i64 (k : Nat)))) (by kernel_rfl) ?_ (fun hHeld => ?_)
  · go_keep
  refine wpAnyH_take (i := 0) (v := ?_) (by simp only [List.getElem?_toArray, List.getElem?_cons_succ, List.getElem?_cons_zero]; rfl) (by kernel_rfl) (by kernel_rfl) (by kernel_rfl) (by exact fun _ _ _ h => h) ?_ (by assumption) ?_
  rotate_left
  · refine Or.inl ⟨by rfl, ?_⟩
    (intro w hSw; (try dsimp only at hSw); go_simp; try with_reducible rfl)
  simp only [Act.put, List.setIfInBounds_toArray, List.set_cons_zero, List.set_cons_succ]
  refine wpAnyH_take (i := 1) (v := ?_) (by simp only [List.getElem?_toArray, List.getElem?_cons_succ, List.getElem?_cons_zero]; rfl) (by kernel_rfl) (by kernel_rfl) (by kernel_rfl) (by exact fun _ _ _ h => h) ?_ (by assumption) ?_
  rotate_left
  · refine Or.inl ⟨by rfl, ?_⟩
    (intro w hSw; (try dsimp only at hSw); go_simp; try with_reducible rfl)
  simp only [Act.put, List.setIfInBounds_toArray, List.set_cons_zero, List.set_cons_succ]
  refine wpAnyH_take (i := 2) (v := ?_) (by simp only [List.getElem?_toArray, List.getElem?_cons_succ, List.getElem?_cons_zero]; rfl) (by kernel_rfl) (by kernel_rfl) (by kernel_rfl) (by exact fun _ _ _ h => h) ?_ (by assumption) ?_
  rotate_left
  · refine Or.inl ⟨by rfl, ?_⟩
    (intro w hSw; (try dsimp only at hSw); go_simp; try with_reducible rfl)
  simp only [Act.put, List.setIfInBounds_toArray, List.set_cons_zero, List.set_cons_succ]
  refine wpAnyH_take (i := 3) (v := ?_) (by simp only [List.getElem?_toArray, List.getElem?_cons_succ, List.getElem?_cons_zero]; rfl) (by kernel_rfl) (by kernel_rfl) (by kernel_rfl) (by exact fun _ _ _ h => h) ?_ (by assumption) ?_
  rotate_left
  · refine Or.inl ⟨by rfl, ?_⟩
    (intro w hSw; (try dsimp only at hSw); go_simp; try with_reducible rfl)
  simp only [Act.put, List.setIfInBounds_toArray, List.set_cons_zero, List.set_cons_succ]
  refine wpAnyH_take (i := 5) (v := ?_) (by simp only [List.getElem?_toArray, List.getElem?_cons_succ, List.getElem?_cons_zero]; rfl) (by kernel_rfl) (by kernel_rfl) (by kernel_rfl) (by exact fun _ _ _ h => h) ?_ (by assumption) ?_
  rotate_left
  · refine Or.inl ⟨by rfl, ?_⟩
    (intro w hSw; (try dsimp only at hSw); go_simp; try with_reducible rfl)
  simp only [Act.put, List.setIfInBounds_toArray, List.set_cons_zero, List.set_cons_succ]
  refine wpAnyH_take (i := 6) (v := ?_) (by simp only [List.getElem?_toArray, List.getElem?_cons_succ, List.getElem?_cons_zero]; rfl) (by kernel_rfl) (by kernel_rfl) (by kernel_rfl) (by exact fun _ _ _ h => h) ?_ (by assumption) ?_
  rotate_left
  · refine Or.inl ⟨by rfl, ?_⟩
    (intro w hSw; (try dsimp only at hSw); go_simp; try with_reducible rfl)
  simp only [Act.put, List.setIfInBounds_toArray, List.set_cons_zero, List.set_cons_succ]
  refine wpAnyH_take (i := 7) (v := ?_) (by simp only [List.getElem?_toArray, List.getElem?_cons_succ, List.getElem?_cons_zero]; rfl) (by kernel_rfl) (by kernel_rfl) (by kernel_rfl) (by exact fun _ _ _ h => h) ?_ (by assumption) ?_
  rotate_left
  · refine Or.inl ⟨by rfl, ?_⟩
    (intro w hSw; (try dsimp only at hSw); go_simp; try with_reducible rfl)
  simp only [Act.put, List.setIfInBounds_toArray, List.set_cons_zero, List.set_cons_succ]
  refine wpAnyH_ready (rs := [4]) (by kernel_rfl) (by simp) ?_
  refine AllReadyH.cons (by simp only [List.getElem?_toArray, List.getElem?_cons_succ, List.getElem?_cons_zero]; rfl) (fun K hK => ?_) ?_
  · go_simp
    refine (document_at s (k : Int) _).mono ?_
    rintro e w1 ⟨rfl, rfl⟩
    try go_wp2_with fail
    refine hK.out _ _ ?_ (fun hHeld => ?_)
    · go_keep
    clear hK K
    try simp only [Act.put, List.setIfInBounds_toArray, List.set_cons_zero, List.set_cons_succ]
    refine wpAnyH_take (i := 8) (v := ?_) (by simp only [List.getElem?_toArray, List.getElem?_cons_succ, List.getElem?_cons_zero]; rfl) (by kernel_rfl) (by kernel_rfl) (by kernel_rfl) (by exact fun _ _ _ h => h) ?_ (by assumption) ?_
    rotate_left
    · refine Or.inl ⟨by rfl, ?_⟩
      (intro w hSw; (try dsimp only at hSw); go_simp; try with_reducible rfl)
    simp only [Act.put, List.setIfInBounds_toArray, List.set_cons_zero, List.set_cons_succ]
    refine wpAnyH_take (i := 9) (v := ?_) (by simp only [List.getElem?_toArray, List.getElem?_cons_succ, List.getElem?_cons_zero]; rfl) (by kernel_rfl) (by kernel_rfl) (by kernel_rfl) (by exact fun _ _ _ h => h) ?_ (by assumption) ?_
    rotate_left
    · refine Or.inl ⟨by rfl, ?_⟩
      (intro w hSw; (try dsimp only at hSw); go_simp; try with_reducible rfl)
    simp only [Act.put, List.setIfInBounds_toArray, List.set_cons_zero, List.set_cons_succ]
    refine wpAnyH_take (i := 10) (v := ?_) (by simp only [List.getElem?_toArray, List.getElem?_cons_succ, List.getElem?_cons_zero]; rfl) (by kernel_rfl) (by kernel_rfl) (by kernel_rfl) (by exact fun _ _ _ h => h) ?_ (by assumption) ?_
    rotate_left
    · refine Or.inl ⟨by rfl, ?_⟩
      (intro w hSw; (try dsimp only at hSw); go_simp; try with_reducible rfl)
    simp only [Act.put, List.setIfInBounds_toArray, List.set_cons_zero, List.set_cons_succ]
    refine wpAnyH_take (i := 11) (v := ?_) (by simp only [List.getElem?_toArray, List.getElem?_cons_succ, List.getElem?_cons_zero]; rfl) (by kernel_rfl) (by kernel_rfl) (by kernel_rfl) (by exact fun _ _ _ h => h) ?_ (by assumption) ?_
    rotate_left
    · refine Or.inl ⟨by rfl, ?_⟩
      (intro w hSw; (try dsimp only at hSw); go_simp; try with_reducible rfl)
    simp only [Act.put, List.setIfInBounds_toArray, List.set_cons_zero, List.set_cons_succ]
    refine wpAnyH_take (i := 12) (v := ?_) (by simp only [List.getElem?_toArray, List.getElem?_cons_succ, List.getElem?_cons_zero]; rfl) (by kernel_rfl) (by kernel_rfl) (by kernel_rfl) (by exact fun _ _ _ h => h) ?_ (by assumption) ?_
    rotate_left
    · refine Or.inl ⟨by rfl, ?_⟩
      (intro w hSw; (try dsimp only at hSw); go_simp; try with_reducible rfl)
    simp only [Act.put, List.setIfInBounds_toArray, List.set_cons_zero, List.set_cons_succ]
    refine wpAnyH_take (i := 17) (v := ?_) (by simp only [List.getElem?_toArray, List.getElem?_cons_succ, List.getElem?_cons_zero]; rfl) (by kernel_rfl) (by kernel_rfl) (by kernel_rfl) (by exact fun _ _ _ h => h) ?_ (by assumption) ?_
    rotate_left
    · refine Or.inl ⟨by rfl, ?_⟩
      (intro w hSw; (try dsimp only at hSw); go_simp; try with_reducible rfl)
    simp only [Act.put, List.setIfInBounds_toArray, List.set_cons_zero, List.set_cons_succ]
    refine wpAnyH_ready (rs := [13]) (by kernel_rfl) (by simp) ?_
    refine AllReadyH.cons (by simp only [List.getElem?_toArray, List.getElem?_cons_succ, List.getElem?_cons_zero]; rfl) (fun K hK => ?_) ?_
    · go_simp
      refine hK.out _ _ ?_ (fun hHeld => ?_)
      · go_keep
      clear hK K
      try simp only [Act.put, List.setIfInBounds_toArray, List.set_cons_zero, List.set_cons_succ]
      refine wpAnyH_take (i := 14) (v := ?_) (by simp only [List.getElem?_toArray, List.getElem?_cons_succ, List.getElem?_cons_zero]; rfl) (by kernel_rfl) (by kernel_rfl) (by kernel_rfl) (by exact fun _ _ _ h => h) ?_ (by assumption) ?_
      rotate_left
      · refine Or.inl ⟨by rfl, ?_⟩
        (intro w hSw; (try dsimp only at hSw); go_simp; try with_reducible rfl)
      simp only [Act.put, List.setIfInBounds_toArray, List.set_cons_zero, List.set_cons_succ]
      refine wpAnyH_take (i := 15) (v := ?_) (by simp only [List.getElem?_toArray, List.getElem?_cons_succ, List.getElem?_cons_zero]; rfl) (by kernel_rfl) (by kernel_rfl) (by kernel_rfl) (by exact fun _ _ _ h => h) ?_ (by assumption) ?_
      rotate_left
      · refine Or.inl ⟨by rfl, ?_⟩
        (intro w hSw; (try dsimp only at hSw); go_simp; try with_reducible rfl)
      simp only [Act.put, List.setIfInBounds_toArray, List.set_cons_zero, List.set_cons_succ]
      refine wpAnyH_take (i := 16) (v := ?_) (by simp only [List.getElem?_toArray, List.getElem?_cons_succ, List.getElem?_cons_zero]; rfl) (by kernel_rfl) (by kernel_rfl) (by kernel_rfl) (by exact fun _ _ _ h => h) ?_ (by assumption) ?_
      rotate_left
      · refine Or.inl ⟨by rfl, ?_⟩
        (intro w hSw; (try dsimp only at hSw); go_simp; try with_reducible rfl)
      simp only [Act.put, List.setIfInBounds_toArray, List.set_cons_zero, List.set_cons_succ]
      refine wpAnyH_take (i := 18) (v := ?_) (by simp only [List.getElem?_toArray, List.getElem?_cons_succ, List.getElem?_cons_zero]; rfl) (by kernel_rfl) (by kernel_rfl) (by kernel_rfl) (by exact fun _ _ _ h => h) ?_ (by assumption) ?_
      rotate_left
      · refine Or.inl ⟨by rfl, ?_⟩
        (intro w hSw; (try dsimp only at hSw); go_simp; try with_reducible rfl)
      simp only [Act.put, List.setIfInBounds_toArray, List.set_cons_zero, List.set_cons_succ]
      refine wpAnyH_done (by kernel_rfl) ?_ _
      go_wp2_with fail
      go_returns
      exact ⟨_, rfl, ⟨by simp [go_sem], by simp [go_sem], by simp⟩, by simp, by go_grown⟩
    exact AllReadyH.nil
  exact AllReadyH.nil
end Go.Proofs.Ytedjjimabchffaa
