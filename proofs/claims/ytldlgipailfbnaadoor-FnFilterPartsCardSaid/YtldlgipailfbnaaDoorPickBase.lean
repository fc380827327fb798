/- laws.zzFits3, laws.picks7, laws.samePicks7. -/
import Derived.Test.YtldlgipailfbnaaDoorPickPlain
import Derived.Test.YtldlgipailfbnaaDoorAsciiWalk
import Derived.Deep.QuietTactic
import Derived.BigQuiet
namespace Go.Proofs.YtldlgipailfbnaaDoor
open Go.RowKit
set_option linter.unusedVariables false
set_option linter.unusedSimpArgs false

def Fits4 (p : Pk) : Prop := p.t.size ≤ 2147483647 ∧ p.d.size ≤ 2147483647
def Fits4Post (p : Pk) (w : World) (e : Ending) (w' : World) : Prop := ∃ b, e = .returned (.bool b) ∧ (b = true → Fits4 p) ∧ Below w.heap.size w w'
theorem fits4_any (p : Pk) (w : World) : Calls Tryd.prog 9 #[.agg #[.string p.t, .string p.d]] w (Fits4Post p w) := by
  obtain ⟨t, d⟩ := p
  dsimp only
  by_cases h1 : (2147483647 : Int) < t.size
  · go_enter Tryd.func9, Tryd.ntmps9
    go_wp2_with fail
    go_returns
    exact ⟨false, rfl, (fun h => by cases h), (Below.refl _ _).alloc (Nat.le_refl _) _⟩
  · by_cases h2 : (2147483647 : Int) < d.size
    · go_enter Tryd.func9, Tryd.ntmps9
      go_wp2_with fail
      go_returns
      exact ⟨false, rfl, (fun h => by cases h), (Below.refl _ _).alloc (Nat.le_refl _) _⟩
    · go_enter Tryd.func9, Tryd.ntmps9
      go_wp2_with fail
      go_returns
      exact ⟨true, rfl, fun _ => ⟨by show t.size ≤ _; omega, by show d.size ≤ _; omega⟩, (Below.refl _ _).alloc (Nat.le_refl _) _⟩

def Fits3Post (ps : List Pk) (w : World) (e : Ending) (w' : World) : Prop := ∃ b, e = .returned (.bool b) ∧ (b = true → ps.length ≤ 2147483647 ∧ ∀ p ∈ ps, Fits4 p) ∧ Below w.heap.size w w'

theorem fits3_any (a : Option Addr) (cap : Nat) (ps : List Pk) (w : World) (h : IsPks w a ps) :
    Calls Tryd.prog 5 #[.slice a ps.length cap] w (Fits3Post ps w) := by
  obtain ⟨n, hn⟩ : ∃ n, n = ps.length := ⟨_, rfl⟩
  have Hn := Go.Lib.hid hn
  have HH := Go.Lib.hid h
  rw [← hn]
  clear hn h
  by_cases hL : (2147483647 : Int) < n
  · go_enter Tryd.func5, Tryd.ntmps5
    go_wp2_with fail
    go_returns
    exact ⟨false, rfl, (fun h => by cases h), Below.refl _ _⟩
  have hl : n ≤ 2147483647 := by omega
  go_enter Tryd.func5, Tryd.ntmps5
  go_wp2_with fail
  go_loopw [10] (fun i wr => ∃ k : Nat, k ≤ n ∧ i = .int .i64 k ∧ Below w.heap.size w wr ∧ Hid (∀ j, j < k → Fits4 (pkAt ps j))) (fun i _ => n - (intOf i).toNat)
  case atStart => exact ⟨0, Nat.zero_le _, rfl, Below.refl _ _, fun j hj => by omega⟩
  case round =>
    obtain ⟨k, hk, rfl, hb, HG⟩ := hrel
    by_cases hlt : k < n
    · rcases HH.out with e | ⟨b, off, rfl, hbl, hc⟩
      · have := Hn.out; rw [e] at this; simp at this; omega
      obtain ⟨c1, c2⟩ := hc k (by rw [← Hn.out]; exact hlt)
      have hc1 : wr.cell? ⟨b, off + k * 2, none⟩ = some (.string (pkAt ps k).t) := (hb.cell (p := ⟨b, off + k * 2, none⟩) hbl).trans c1
      have hc2 : wr.cell? ⟨b, off + k * 2 + 1, none⟩ = some (.string (pkAt ps k).d) := (hb.cell (p := ⟨b, off + k * 2 + 1, none⟩) hbl).trans c2
      have hz := hb.size
      have B1 : Hid (Below w.heap.size w (wr.alloc (.cells #[.string (pkAt ps k).t, .string (pkAt ps k).d] 29))) := hb.alloc hz _
      clear hc c1 c2 hb
      go_wp2_with fail
      refine (fits4_any (pkAt ps k) _).mono ?_
      rintro e w1 ⟨b1, rfl, hfit, hb1⟩
      have B2 : Hid (Below w.heap.size w w1) := B1.out.trans (hb1.mono (by simp; omega))
      have HF := Go.Lib.hid hfit
      clear hfit hb1
      cases b1
      · go_wp2_with fail
        go_returns
        exact ⟨false, rfl, (fun h => by cases h), B2.out⟩
      · have HF2 := HF.out rfl
        have HF3 := Go.Lib.hid HF2
        clear HF HF2
        go_wp2_with fail
        go_roundw
        case rel => exact ⟨k + 1, by omega, by go_num, B2.out, fun j hj => by
          by_cases e : j < k
          · exact HG.out j e
          · obtain rfl : j = k := by omega
            exact HF3.out⟩
        case measure => simp [intOf]; omega
    · have HV : Hid (∀ p ∈ ps, Fits4 p) := fun p hp => by
        obtain ⟨j, hj, rfl⟩ := List.getElem_of_mem hp
        have := HG.out j (by have := Hn.out; omega)
        simpa [pkAt, hj] using this
      have HB := Go.Lib.hid hb
      clear hb
      go_wp2_with fail
      go_returns
      exact ⟨true, rfl, fun _ => ⟨by rw [← Hn.out]; exact hl, HV.out⟩, HB.out⟩

/-- Picks and a part that are looked at. -/
def Looked (ps : List Pk) (part : ByteArray) : Prop := ps.length ≤ 20 ∧ (∀ p ∈ ps, IsAscii p.t ∧ p.t.size ≤ 60) ∧ IsAscii part ∧ part.size ≤ 60
def PicksPost (ps : List Pk) (part : ByteArray) (w : World) (e : Ending) (w' : World) : Prop := ∃ b, e = .returned (.bool b) ∧ (b = true → Looked ps part) ∧ w = w'

theorem picks7_any (a : Option Addr) (cap : Nat) (ps : List Pk) (part : ByteArray) (w : World) (h : IsPks w a ps) (hl : ps.length ≤ 2147483647) (hf : ∀ p ∈ ps, Fits4 p) (hp : part.size ≤ 2147483647) :
    Calls Tryd.prog 6 #[.slice a ps.length cap, .string part] w (PicksPost ps part w) := by
  obtain ⟨n, hn⟩ : ∃ n, n = ps.length := ⟨_, rfl⟩
  have Hn := Go.Lib.hid hn
  have HH := Go.Lib.hid h
  have HF := Go.Lib.hid hf
  rw [← hn] at hl ⊢
  clear hn h hf
  go_enter Tryd.func6, Tryd.ntmps6
  go_wp2_with fail
  go_loop [5] (fun i => ∃ k : Nat, k ≤ n ∧ i = .int .i64 k ∧ Hid (∀ j, j < k → IsAscii (pkAt ps j).t ∧ (pkAt ps j).t.size ≤ 60)) (fun i => n - (intOf i).toNat)
  case atStart => exact ⟨0, Nat.zero_le _, rfl, fun j hj => by omega⟩
  case round =>
    obtain ⟨k, hk, rfl, HG⟩ := hrel
    by_cases hlt : k < n
    · rcases HH.out with e | ⟨b, off, rfl, hbl, hc⟩
      · have := Hn.out; rw [e] at this; simp at this; omega
      obtain ⟨hc1, hc2⟩ := hc k (by rw [← Hn.out]; exact hlt)
      have hsz := HF.out (pkAt ps k) (pkAt_mem ps k (by rw [← Hn.out]; exact hlt))
      obtain ⟨z1, z2⟩ := hsz
      have HP := Go.Lib.hid (rfl : pkAt ps k = pkAt ps k)
      generalize hP : pkAt ps k = p at hc1 hc2 z1 z2
      have HPP := Go.Lib.hid hP
      clear hc hP HP
      have hk1 : (k : Int) < n := by omega
      by_cases hsm : Small p.t
      · have HSM := Go.Lib.hid hsm
        clear hsm
        by_cases h60 : (60 : Int) < p.t.size
        · go_wp2_with (go_at_call 10; refine (ascii_yes _ _ HSM.out).mono ?_; rintro e w1 ⟨rfl, rfl⟩)
          go_returns
          exact ⟨false, rfl, (fun h => by cases h), rfl⟩
        · have H60 := Go.Lib.hid h60
          by_cases h61 : (60 : Int) < p.d.size
          · go_wp2_with (go_at_call 10; refine (ascii_yes _ _ HSM.out).mono ?_; rintro e w1 ⟨rfl, rfl⟩)
            go_returns
            exact ⟨false, rfl, (fun h => by cases h), rfl⟩
          · go_wp2_with (go_at_call 10; refine (ascii_yes _ _ HSM.out).mono ?_; rintro e w1 ⟨rfl, rfl⟩)
            go_round
            case rel => exact ⟨k + 1, by omega, by go_num, fun j hj => by
              by_cases e : j < k
              · exact HG.out j e
              · obtain rfl : j = k := by omega
                rw [HPP.out]
                exact ⟨HSM.out.1, by have := H60.out; omega⟩⟩
            case measure => simp [intOf]; omega
      · have HSM := Go.Lib.hid hsm
        clear hsm
        go_wp2_with (go_at_call 10; refine (ascii_no _ _ (by omega) HSM.out).mono ?_; rintro e w1 ⟨rfl, rfl⟩)
        go_returns
        exact ⟨false, rfl, (fun h => by cases h), rfl⟩
    · have HV : Hid (∀ p ∈ ps, IsAscii p.t ∧ p.t.size ≤ 60) := fun p hp => by
        obtain ⟨j, hj, rfl⟩ := List.getElem_of_mem hp
        have := HG.out j (by have := Hn.out; omega)
        simpa [pkAt, hj] using this
      have hk1 : ¬ (k : Int) < n := by omega
      by_cases h20 : (n : Int) ≤ 20
      · by_cases hsm : Small part
        · have HSM := Go.Lib.hid hsm
          clear hsm
          by_cases h60 : (part.size : Int) ≤ 60
          · have H60 := Go.Lib.hid h60
            go_wp2_with (go_at_call 10; refine (ascii_yes _ _ HSM.out).mono ?_; rintro e w1 ⟨rfl, rfl⟩)
            go_returns
            exact ⟨true, rfl, fun _ => ⟨by rw [← Hn.out]; omega, HV.out, HSM.out.1, by have := H60.out; omega⟩, rfl⟩
          · have hd : decide ((part.size : Int) ≤ 60) = false := by simpa using h60
            go_wp2_with (go_at_call 10; refine (ascii_yes _ _ HSM.out).mono ?_; rintro e w1 ⟨rfl, rfl⟩)
            go_returns
            exact ⟨false, rfl, (fun h => by cases h), rfl⟩
        · have HSM := Go.Lib.hid hsm
          clear hsm
          go_wp2_with (go_at_call 10; refine (ascii_no _ _ (by omega) HSM.out).mono ?_; rintro e w1 ⟨rfl, rfl⟩)
          go_returns
          exact ⟨false, rfl, (fun h => by cases h), rfl⟩
      · go_wp2_with fail
        go_returns
        exact ⟨false, rfl, (fun h => by cases h), rfl⟩

/-- Two slices that read as the same picks are the same. -/
theorem same7_any (a b : Option Addr) (cap cap2 : Nat) (ps : List Pk) (w : World) (ha : IsPks w a ps) (hb : IsPks w b ps) (hl : ps.length ≤ 100) :
    Calls Tryd.prog 8 #[.slice a ps.length cap, .slice b ps.length cap2] w fun e w' => e = .returned (.bool true) ∧ Below w.heap.size w w' := by
  obtain ⟨n, hn⟩ : ∃ n, n = ps.length := ⟨_, rfl⟩
  have Hn := Go.Lib.hid hn
  have HA := Go.Lib.hid ha
  have HB := Go.Lib.hid hb
  rw [← hn] at hl ⊢
  clear hn ha hb
  go_enter Tryd.func8, Tryd.ntmps8
  go_wp2_with fail
  go_loopw [5] (fun i wr => ∃ k : Nat, k ≤ n ∧ i = .int .i64 k ∧ Below w.heap.size w wr) (fun i _ => n - (intOf i).toNat)
  case atStart => exact ⟨0, Nat.zero_le _, rfl, Below.refl _ _⟩
  case round =>
    obtain ⟨k, hk, rfl, hbw⟩ := hrel
    by_cases hlt : k < n
    · rcases HA.out with e | ⟨b1, off, rfl, hbl, hc⟩
      · have := Hn.out; rw [e] at this; simp at this; omega
      rcases HB.out with e | ⟨b2, off2, rfl, hbl2, hc'⟩
      · have := Hn.out; rw [e] at this; simp at this; omega
      obtain ⟨c1, c2⟩ := hc k (by rw [← Hn.out]; exact hlt)
      obtain ⟨d1, d2⟩ := hc' k (by rw [← Hn.out]; exact hlt)
      have hc1 : wr.cell? ⟨b1, off + k * 2, none⟩ = some (.string (pkAt ps k).t) := (hbw.cell (p := ⟨b1, off + k * 2, none⟩) hbl).trans c1
      have hc2 : wr.cell? ⟨b1, off + k * 2 + 1, none⟩ = some (.string (pkAt ps k).d) := (hbw.cell (p := ⟨b1, off + k * 2 + 1, none⟩) hbl).trans c2
      have hd1 : wr.cell? ⟨b2, off2 + k * 2, none⟩ = some (.string (pkAt ps k).t) := (hbw.cell (p := ⟨b2, off2 + k * 2, none⟩) hbl2).trans d1
      have hd2 : wr.cell? ⟨b2, off2 + k * 2 + 1, none⟩ = some (.string (pkAt ps k).d) := (hbw.cell (p := ⟨b2, off2 + k * 2 + 1, none⟩) hbl2).trans d2
      have BW := Go.Lib.hid hbw
      have hk1 : (k : Int) < n := by omega
      have hk0 : (0 : Int) ≤ k := by omega
      clear hc hc' c1 c2 d1 d2 hbw
      go_wp2_with fail
      go_quiet (fail)
      go_wp2_with fail
      go_roundw
      case rel => exact ⟨k + 1, by omega, by go_num, below_drewN BW.out _⟩
      case measure => simp [intOf]; omega
    · have hk1 : ¬ (k : Int) < n := by omega
      have BW := Go.Lib.hid hbw
      clear hbw
      go_wp2_with fail
      go_returns
      exact ⟨rfl, BW.out⟩
end Go.Proofs.YtldlgipailfbnaaDoor
