/- The contract of impl.DisplayAt at printable texts. -/
import Derived.Test.YtedjjimabchffaaDocBase
namespace Go.Proofs.Ytedjjimabchffaa
open Go.RowKit
set_option linter.unusedVariables false
set_option linter.unusedSimpArgs false

/-- A text of printable signs, of at most 1000 bytes. -/
def Prints (s : ByteArray) : Prop := (∀ (j : Nat) (hj : j < s.size), 32 ≤ (s[j]'hj).toNat ∧ (s[j]'hj).toNat ≤ 126) ∧ s.size ≤ 1000

def PrintPost (s : ByteArray) (w : World) (e : Ending) (w' : World) : Prop := ∃ b, e = .returned (.bool b) ∧ (b = true ↔ Prints s) ∧ w = w'

theorem printable_any (s : ByteArray) (w : World) (hs : s.size ≤ 9223372036854775807) : Calls Try.prog 10 #[.string s] w (PrintPost s w) := by
  go_enter Try.func10, Try.ntmps10
  go_wp2
  go_loop [3] (fun i => ∃ k : Nat, k ≤ s.size ∧ i = .int .i64 k ∧ Hid (∀ (j : Nat) (hj : j < s.size), j < k → 32 ≤ (s[j]'hj).toNat ∧ (s[j]'hj).toNat ≤ 126)) (fun i => s.size - (intOf i).toNat)
  case atStart => exact ⟨0, Nat.zero_le _, rfl, fun j hj h => by omega⟩
  case round =>
    obtain ⟨k, hk, rfl, HN⟩ := hrel
    by_cases hlt : k < s.size
    · by_cases c1 : (s[k].toNat : Int) < 32
      · have HS : Hid (¬ Prints s) := fun h => by have := h.1 k hlt; omega
        go_wp2_with fail
        go_returns
        exact ⟨false, rfl, ⟨(fun h => by cases h), fun h => absurd h HS.out⟩, rfl⟩
      · by_cases c2 : (126 : Int) < (s[k].toNat : Int)
        · have HS : Hid (¬ Prints s) := fun h => by have := h.1 k hlt; omega
          go_wp2_with fail
          go_returns
          exact ⟨false, rfl, ⟨(fun h => by cases h), fun h => absurd h HS.out⟩, rfl⟩
        · have C1 := Go.Lib.hid c1
          have C2 := Go.Lib.hid c2
          go_wp2_with fail
          go_round
          case rel => exact ⟨k + 1, by omega, by go_num, fun j hj h => by
            by_cases e : j < k
            · exact HN.out j hj e
            · obtain rfl : j = k := by omega
              have := C1.out; have := C2.out; omega⟩
          case measure => simp [intOf]; omega
    · have ha : ∀ (j : Nat) (hj : j < s.size), 32 ≤ (s[j]'hj).toNat ∧ (s[j]'hj).toNat ≤ 126 := fun i hi => HN.out i hi (by omega)
      have HA := Go.Lib.hid ha
      clear ha
      by_cases h3 : (s.size : Int) ≤ 1000
      · go_wp2_with fail
        go_returns
        exact ⟨true, rfl, ⟨fun _ => ⟨HA.out, by omega⟩, fun _ => rfl⟩, rfl⟩
      · go_wp2_with fail
        go_returns
        exact ⟨false, rfl, ⟨(fun h => by cases h), fun h => absurd h.2 (by omega)⟩, rfl⟩

theorem printable_yes (s : ByteArray) (w : World) (h : Prints s) : Calls Try.prog 10 #[.string s] w fun e w' => e = .returned (.bool true) ∧ w = w' :=
  (printable_any s w (by have := h.2; omega)).mono fun _ _ ⟨b, he, hb, hw⟩ => by
    obtain rfl := hb.2 h
    exact ⟨he, hw⟩
theorem printable_no (s : ByteArray) (w : World) (hs : s.size ≤ 9223372036854775807) (h : ¬ Prints s) : Calls Try.prog 10 #[.string s] w fun e w' => e = .returned (.bool false) ∧ w = w' :=
  (printable_any s w hs).mono fun _ _ ⟨b, he, hb, hw⟩ => by
    cases b
    · exact ⟨he, hw⟩
    · exact absurd (hb.1 rfl) h

theorem width_one (c : Int) (w : World) (h1 : 32 ≤ c) (h2 : c ≤ 126) : Calls Try.prog 51 #[.int .i32 c] w fun e w' => e = .returned (.int .i64 1) ∧ w = w' := by
  have h3 : (c == 173) = false := by simp; omega
  go_enter Try.func51, Try.ntmps51
  go_wp2_with fail
  go_returns
  exact ⟨rfl, rfl⟩

theorem byteAt_lt (s : ByteArray) (i : Nat) (h : i < s.size) : byteAt s i = ((s[i]'h).toNat : Int) := by
  unfold byteAt
  have h' : i < s.data.toList.length := by simpa using h
  rw [List.getElem?_eq_getElem h']
  simp; rfl

theorem display_any (b : Nat) (s : ByteArray) (k : Nat) (w : World) (hd : DocAt w b s k) (hs : Prints s) (ha : IsAscii s) (hk : k ≤ s.size) :
    Calls Try.prog 20 #[.pointer (some ⟨b, 0, none⟩)] w fun e w' => e = .returned (.int .i64 k) ∧ Below w.heap.size w w' := by
  obtain ⟨c0, c1, hb⟩ := hd
  obtain ⟨hp, hsz⟩ := hs
  have hcv := fun w => run_runes (P := Try.prog) w 9 53 21 s Try.underlying9 Try.underlying53 Try.underlying21 (by omega)
  have hl := runes_ascii_length s ha
  have hrow : Hid (∀ (cp : Nat) (j : Nat), (hj : j < s.size) → (runeCells s cp)[j]? = some (.int .i32 ((s[j]'hj).toNat : Int))) := fun cp j hj => by
    rw [runeCells_at s cp j (by rw [hl]; exact hj), nth_ascii s ha, byteAt_lt s j hj]
  have hcap : ∀ w : World, (k : Int) ≤ (runeCap w 21 s : Nat) := fun w => by have := runeCap_ge w 21 s; omega
  rw [hl] at hcv
  have HP := Go.Lib.hid hp
  have hk0 : (0 : Int) ≤ k := by omega
  clear ha hl hp
  go_enter Try.func20, Try.ntmps20
  go_wp2_with fail
  refine wp_region_held_drew (S := (fun w' => w'.cell? ⟨b, 0, none⟩ = some (.string s) ∧ w'.cell? ⟨b, 1, none⟩ = some (.int .i64 (k : Nat)))) (by kernel_rfl) ?_ (fun hHeld => ?_)
  · (try dsimp only); first | done | (go_keep)
  refine wpAnyH_take (i := 0) (v := ?_) (by simp only [List.getElem?_toArray, List.getElem?_cons_succ, List.getElem?_cons_zero]; rfl) (by kernel_rfl) (by kernel_rfl) (by kernel_rfl) (by exact fun _ _ _ h => h) ?_ (by assumption) ?_
  rotate_left
  · refine Or.inl ⟨by rfl, ?_⟩
    (intro w hSw; (try dsimp only at hSw); go_simp; try with_reducible rfl)
  simp only [Act.put, List.setIfInBounds_toArray, List.set_cons_zero, List.set_cons_succ]
  refine wpAnyH_take (i := 1) (v := ?_) (by simp only [List.getElem?_toArray, List.getElem?_cons_succ, List.getElem?_cons_zero]; rfl) (by kernel_rfl) (by kernel_rfl) (by kernel_rfl) (by exact fun _ _ _ h => h) ?_ (by assumption) ?_
  rotate_left
  · refine Or.inl ⟨by rfl, ?_⟩
    (intro w hSw; (try dsimp only at hSw); go_simp; try with_reducible rfl)
  simp only [Act.put, List.setIfInBounds_toArray, List.set_cons_zero, List.set_cons_succ]
  refine wpAnyH_take (i := 2) (v := ?_) (by simp only [List.getElem?_toArray, List.getElem?_cons_succ, List.getElem?_cons_zero]; rfl) (by kernel_rfl) (by kernel_rfl) (by kernel_rfl) (by exact fun _ _ _ h => h) ?_ (by assumption) ?_
  rotate_left
  · refine Or.inl ⟨by rfl, ?_⟩
    (intro w hSw; (try dsimp only at hSw); go_simp; try with_reducible rfl)
  simp only [Act.put, List.setIfInBounds_toArray, List.set_cons_zero, List.set_cons_succ]
  refine wpAnyH_take (i := 3) (v := ?_) (by simp only [List.getElem?_toArray, List.getElem?_cons_succ, List.getElem?_cons_zero]; rfl) (by kernel_rfl) (by kernel_rfl) (by kernel_rfl) (by exact fun _ _ _ h => h) ?_ (by assumption) ?_
  rotate_left
  · refine Or.inl ⟨by rfl, ?_⟩
    (intro w hSw; (try dsimp only at hSw); go_simp; try with_reducible rfl)
  simp only [Act.put, List.setIfInBounds_toArray, List.set_cons_zero, List.set_cons_succ]
  refine wpAnyH_take (i := 5) (v := ?_) (by simp only [List.getElem?_toArray, List.getElem?_cons_succ, List.getElem?_cons_zero]; rfl) (by kernel_rfl) (by kernel_rfl) (by kernel_rfl) (by exact fun _ _ _ h => h) ?_ (by assumption) ?_
  rotate_left
  · refine Or.inl ⟨by rfl, ?_⟩
    (intro w hSw; (try dsimp only at hSw); go_simp; try with_reducible rfl)
  simp only [Act.put, List.setIfInBounds_toArray, List.set_cons_zero, List.set_cons_succ]
  refine wpAnyH_take (i := 6) (v := ?_) (by simp only [List.getElem?_toArray, List.getElem?_cons_succ, List.getElem?_cons_zero]; rfl) (by kernel_rfl) (by kernel_rfl) (by kernel_rfl) (by exact fun _ _ _ h => h) ?_ (by assumption) ?_
  rotate_left
  · refine Or.inl ⟨by rfl, ?_⟩
    (intro w hSw; (try dsimp only at hSw); go_simp; try with_reducible rfl)
  simp only [Act.put, List.setIfInBounds_toArray, List.set_cons_zero, List.set_cons_succ]
  refine wpAnyH_take (i := 7) (v := ?_) (by simp only [List.getElem?_toArray, List.getElem?_cons_succ, List.getElem?_cons_zero]; rfl) (by kernel_rfl) (by kernel_rfl) (by kernel_rfl) (by exact fun _ _ _ h => h) ?_ (by assumption) ?_
  rotate_left
  · refine Or.inl ⟨by rfl, ?_⟩
    (intro w hSw; (try dsimp only at hSw); go_simp; try with_reducible rfl)
  simp only [Act.put, List.setIfInBounds_toArray, List.set_cons_zero, List.set_cons_succ]
  refine wpAnyH_take (i := 8) (v := ?_) (by simp only [List.getElem?_toArray, List.getElem?_cons_succ, List.getElem?_cons_zero]; rfl) (by kernel_rfl) (by kernel_rfl) (by kernel_rfl) (by exact fun _ _ _ h => h) ?_ (by assumption) ?_
  rotate_left
  · refine Or.inl ⟨by rfl, ?_⟩
    (intro w hSw; (try dsimp only at hSw); go_simp; try with_reducible rfl)
  simp only [Act.put, List.setIfInBounds_toArray, List.set_cons_zero, List.set_cons_succ]
  refine wpAnyH_ready (rs := [4]) (by kernel_rfl) (by simp) ?_
  refine AllReadyH.cons (by simp only [List.getElem?_toArray, List.getElem?_cons_succ, List.getElem?_cons_zero]; rfl) (fun K hK => ?_) AllReadyH.nil
  go_simp
  refine hK.out _ _ ?_ (fun hHeld => ?_)
  · (try dsimp only); first | done | (go_keep)
  clear hK K
  try simp only [Act.put, List.setIfInBounds_toArray, List.set_cons_zero, List.set_cons_succ]
  refine wpAnyH_take (i := 9) (v := ?_) (by simp only [List.getElem?_toArray, List.getElem?_cons_succ, List.getElem?_cons_zero]; rfl) (by kernel_rfl) (by kernel_rfl) (by kernel_rfl) (by exact fun _ _ _ h => h) ?_ (by assumption) ?_
  rotate_left
  · refine Or.inl ⟨by rfl, ?_⟩
    (intro w hSw; (try dsimp only at hSw); go_simp; try with_reducible rfl)
  simp only [Act.put, List.setIfInBounds_toArray, List.set_cons_zero, List.set_cons_succ]
  refine wpAnyH_take (i := 10) (v := ?_) (by simp only [List.getElem?_toArray, List.getElem?_cons_succ, List.getElem?_cons_zero]; rfl) (by kernel_rfl) (by kernel_rfl) (by kernel_rfl) (by exact fun _ _ _ h => h) ?_ (by assumption) ?_
  rotate_left
  · refine Or.inl ⟨by rfl, ?_⟩
    (intro w hSw; (try dsimp only at hSw); go_simp; try with_reducible rfl)
  simp only [Act.put, List.setIfInBounds_toArray, List.set_cons_zero, List.set_cons_succ]
  refine wpAnyH_done (by kernel_rfl) ?_ _
  go_wp2_with fail
  go_loop [3, 18] (fun p i => ∃ j : Nat, j ≤ k ∧ i = .int .i64 j ∧ p = .int .i64 j) (fun _ i => k - (intOf i).toNat)
  case atStart => exact ⟨0, Nat.zero_le _, rfl, rfl⟩
  case round =>
    obtain ⟨j, hj, rfl, rfl⟩ := hrel
    by_cases hlt : j < k
    · have hjs : j < s.size := by omega
      have hck := hrow.out (runeCap w.drew 21 s) j hjs
      have hp1 := (HP.out j hjs).1
      have hp2 := (HP.out j hjs).2
      go_wp2_with fail
      refine (width_one _ _ (by omega) (by omega)).mono ?_
      rintro e w1 ⟨rfl, rfl⟩
      go_wp2_with fail
      go_round
      case rel => exact ⟨j + 1, by omega, by go_num, by go_num⟩
      case measure => simp [intOf]; omega
    · obtain rfl : j = k := by omega
      go_wp2_with fail
      go_returns
      exact ⟨rfl, by go_grown⟩

theorem display_at (s : ByteArray) (k : Nat) (w : World) (hs : Small s) (hp : Prints s) (hk : k ≤ s.size) :
    Calls Try.prog 11 #[.agg #[.string s, .int .i64 (k : Nat)]] w fun e w' => e = .returned (.int .i64 k) ∧ Below w.heap.size w w' := by
  have HS := Go.Lib.hid hs
  have HP := Go.Lib.hid hp
  clear hs hp
  go_enter Try.func11, Try.ntmps11
  go_wp2_with fail
  refine (document_any s k _ HS.out hk).mono ?_
  rintro e w1 ⟨b, rfl, hd, hb, b1⟩
  have HD := Go.Lib.hid hd
  have hb1 : Below w.heap.size w w1 := ((Below.refl _ _).alloc (Nat.le_refl _) _).trans (b1.mono (by simp))
  clear hd b1
  go_wp2_with fail
  refine (display_any b s k w1 HD.out HP.out HS.out.1 hk).mono ?_
  rintro e w2 ⟨rfl, b2⟩
  go_wp2_with fail
  go_returns
  exact ⟨rfl, hb1.trans (b2.mono hb1.size)⟩

end Go.Proofs.Ytedjjimabchffaa
