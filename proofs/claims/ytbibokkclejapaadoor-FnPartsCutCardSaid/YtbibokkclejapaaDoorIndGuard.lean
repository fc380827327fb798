/- spec.Plain, laws.plain16, laws.some16; utf8.EncodeRune at ASCII. -/
import Derived.Test.YtbibokkclejapaaDoorIndPlain
import Derived.Handy
namespace Go.Proofs.YtbibokkclejapaaDoor
open Go.RowKit
set_option linter.unusedVariables false
set_option linter.unusedSimpArgs false

def PlainPost (s : ByteArray) (m : Nat) (w : World) (e : Ending) (w' : World) : Prop := ∃ b, e = .returned (.bool b) ∧ (b = true → Pla s.data.toList ∧ s.size ≤ m) ∧ w = w'
theorem plain_any (s : ByteArray) (w : World) (hs : s.size ≤ 2147483647) : Calls Tryd.prog 25 #[.string s] w (PlainPost s s.size w) := by
  go_enter Tryd.func25, Tryd.ntmps25
  go_wp2_with fail
  go_loopw [3] (fun i wr => ∃ k : Nat, k ≤ s.size ∧ i = .int .i64 k ∧ w = wr ∧ Hid (∀ j (hj : j < s.size), j < k → (s[j]'hj).toNat = 10 ∨ (32 ≤ (s[j]'hj).toNat ∧ (s[j]'hj).toNat ≤ 126))) (fun i _ => s.size - (intOf i).toNat)
  case atStart => exact ⟨0, Nat.zero_le _, rfl, rfl, fun j _ hj => by omega⟩
  case round =>
    obtain ⟨k, hk, rfl, rfl, HG⟩ := hrel
    by_cases hlt : k < s.size
    · have hk0 : (0 : Int) ≤ k := by omega
      have hk1 : (k : Int) < s.size := by omega
      obtain ⟨z, hz⟩ : ∃ z, z = (s[k]'hlt).toNat := ⟨_, rfl⟩
      have HZ := Go.Lib.hid hz
      have hz' : ∀ h, (s[k]'h).toNat = z := fun _ => hz.symm
      clear hz
      by_cases h0 : z = 10
      · have q : ((z : Int) != 10) = false := by simp [h0]
        have H0 := Go.Lib.hid h0
        clear h0
        go_wp2_with fail
        go_roundw
        case rel => exact ⟨k + 1, by omega, by go_num, trivial, fun j hj hjk => by
          by_cases e : j < k
          · exact HG.out j hj e
          · obtain rfl : j = k := by omega
            exact .inl (by rw [← HZ.out]; exact H0.out)⟩
        case measure => simp [intOf]; omega
      · have q : ((z : Int) != 10) = true := by simp; omega
        by_cases h1 : (z : Int) < 32
        · go_wp2_with fail
          go_returns
          exact ⟨false, rfl, (fun h => by cases h), rfl⟩
        · by_cases h2 : (126 : Int) < z
          · go_wp2_with fail
            go_returns
            exact ⟨false, rfl, (fun h => by cases h), rfl⟩
          · go_wp2_with fail
            go_roundw
            case rel => exact ⟨k + 1, by omega, by go_num, trivial, fun j hj hjk => by
              by_cases e : j < k
              · exact HG.out j hj e
              · obtain rfl : j = k := by omega
                exact .inr (by rw [← HZ.out]; omega)⟩
            case measure => simp [intOf]; omega
    · have HS : Hid (Pla s.data.toList) := fun b hb => by
        obtain ⟨j, hj, rfl⟩ := List.getElem_of_mem hb
        have hj' : j < s.size := by simpa using hj
        rcases HG.out j hj' (by omega) with h | h
        · exact .inl (UInt8.toNat_inj.1 h)
        · exact .inr h
      go_wp2_with fail
      go_returns
      exact ⟨true, rfl, fun _ => ⟨HS.out, Nat.le_refl _⟩, rfl⟩
theorem plain16_any (s : ByteArray) (w : World) (hs : s.size ≤ 2147483647) : Calls Tryd.prog 9 #[.string s] w (PlainPost s 2000 w) := by
  by_cases h : (s.size : Int) ≤ 2000
  · have HP := Go.Lib.hid (plain_any s w hs)
    go_enter Tryd.func9, Tryd.ntmps9
    go_wp2_with fail
    refine HP.out.mono ?_
    rintro e w1 ⟨b, rfl, hb, rfl⟩
    have HB := Go.Lib.hid hb
    clear hb
    go_wp2_with fail
    go_returns
    exact ⟨b, rfl, fun h => ⟨(HB.out h).1, by omega⟩, rfl⟩
  · have h' : decide ((s.size : Int) ≤ 2000) = false := by simpa using h
    go_enter Tryd.func9, Tryd.ntmps9
    go_wp2_with fail
    go_returns
    exact ⟨false, rfl, (fun h => by cases h), rfl⟩
theorem some16_any (s : ByteArray) (w : World) (hs : s.size ≤ 2147483647) : Calls Tryd.prog 14 #[.string s] w (PlainPost s 800 w) := by
  by_cases h : (s.size : Int) ≤ 800
  · have HP := Go.Lib.hid (plain16_any s w hs)
    go_enter Tryd.func14, Tryd.ntmps14
    go_wp2_with fail
    refine HP.out.mono ?_
    rintro e w1 ⟨b, rfl, hb, rfl⟩
    have HB := Go.Lib.hid hb
    clear hb
    go_wp2_with fail
    go_returns
    exact ⟨b, rfl, fun h => ⟨(HB.out h).1, by omega⟩, rfl⟩
  · have h' : decide ((s.size : Int) ≤ 800) = false := by simpa using h
    go_enter Tryd.func14, Tryd.ntmps14
    go_wp2_with fail
    go_returns
    exact ⟨false, rfl, (fun h => by cases h), rfl⟩

theorem encode_ascii (g : Nat) (cap : Nat) (z : Int) (w : World) (h0 : 0 ≤ z) (h1 : z < 128) (hc : ∃ u, w.cell? ⟨g, 0, none⟩ = some u) (hf : w.frozen? ⟨g, 0, none⟩ = false) :
    Calls Tryd.prog 83 #[.slice (some ⟨g, 0, none⟩) 4 cap, .int .i32 z] w fun e w' => e = .returned (.int .i64 1) ∧ w' = w.setCell ⟨g, 0, none⟩ (.int .u8 z) := by
  obtain ⟨u, hu⟩ := hc
  have hg := lt_of_cell hu
  have e1 : IntKind.u32.wrap z = z := IntWalk.u32_in _ (by omega)
  have e2 : IntKind.u8.wrap z = z := IntWalk.u8_in _ (by omega)
  go_enter Tryd.func83, Tryd.ntmps83
  go_wp2_with fail
  go_returns
  exact ⟨rfl, rfl⟩
end Go.Proofs.YtbibokkclejapaaDoor
