/- The contract of spec.Common. -/
import Derived.Test.YtkljpbpojbhbbaaDoorImplAggregated
namespace Go.Proofs.YtkljpbpojbhbbaaDoor
open Go.RowKit
set_option linter.unusedVariables false
set_option linter.unusedSimpArgs false

def SpecCo (ss : List ByteArray) (w : World) (e : Ending) (w' : World) : Prop :=
  ∃ S, IsCommon (zsOf ss) ss.length S ∧ e = .returned (.string (runesBytes ((zsOf ss 0).take S))) ∧ Below w.heap.size w w'

theorem IsCommon.step {Z : Nat → List Int} {k c m : Nat} (h : IsCommon Z k c) (hm : m ≤ c) (hA : ∀ i, i < m → SameAt Z k i) (he : m = c ∨ ¬ SameAt Z k m) : IsCommon Z (k + 1) m := by
  obtain ⟨h1, h2, h3⟩ := h
  refine ⟨Nat.le_trans hm h1, fun i hi j hj => ?_, ?_⟩
  · by_cases e : j < k
    · exact h2 i (by omega) j e
    · obtain rfl : j = k := by omega
      exact hA i hi
  · rcases he with rfl | he
    · rcases h3 with e | ⟨j, hj, e⟩
      · exact .inl e
      · exact .inr ⟨j, by omega, e⟩
    · exact .inr ⟨k, Nat.lt_succ_self _, he⟩

set_option maxRecDepth 100000 in
theorem spec_co (a : Option Addr) (cap : Nat) (ss : List ByteArray) (w : World) (h : IsStrs w a ss) (h0 : 0 < ss.length) (h20 : ss.length ≤ 20) (hs : ∀ s ∈ ss, s.size ≤ 300) :
    Calls Tryd.prog 16 #[.slice a ss.length cap] w (SpecCo ss w) := by
  have hk := fun w s (h : s.size ≤ 300) => run_runes (P := Tryd.prog) w 9 31 21 s Tryd.underlying9 Tryd.underlying31 Tryd.underlying21 (by omega)
  obtain ⟨n, hn⟩ : ∃ n, n = ss.length := ⟨_, rfl⟩
  have Hn := Go.Lib.hid hn
  rcases h with e | ⟨b, off, rfl, hbl, hc⟩
  · rw [e] at h0; simp at h0
  have HC := Go.Lib.hid hc
  have HS := Go.Lib.hid hs
  have hc0 : w.cell? ⟨b, off, none⟩ = some (.string (txt ss 0)) := hc 0 h0
  have hs0 := hs (txt ss 0) (txt_mem ss 0 h0)
  have hcv0 := hk w (txt ss 0) hs0
  have hln0 := runes_length (txt ss 0)
  have hcg0 := runeCap_ge w 21 (txt ss 0)
  obtain ⟨c0, hcc⟩ : ∃ c, c = runeCap w 21 (txt ss 0) := ⟨_, rfl⟩
  obtain ⟨n0, hnn⟩ : ∃ c, c = (runes (txt ss 0)).length := ⟨_, rfl⟩
  obtain ⟨rc, hrc⟩ : ∃ c, c = runeCells (txt ss 0) c0 := ⟨_, rfl⟩
  rw [← hcc] at hcv0 hcg0
  rw [← hnn, ← hrc] at hcv0
  rw [← hnn] at hcg0 hln0
  have hrow : Hid (RuneRow (w.drew.alloc (.cells rc 21)) (some ⟨w.heap.size, 0, none⟩) (zsOf ss 0)) := RuneRow.of fun j hj => by
    have := runeCells_at (txt ss 0) c0 j hj
    rw [← hrc] at this
    simpa [go_sem, zsOf] using this
  have Hn0 : Hid (n0 = (zsOf ss 0).length) := hnn
  have HK := Go.Lib.hid hk
  unfold SpecCo
  rw [← hn] at h0 h20 ⊢
  clear hn hs hk hc hcc hnn hrc
  go_enter Tryd.func16, Tryd.ntmps16
  go_wp2_with fail
  go_loopw [3, 13] (fun v i wr => ∃ (k c cp : Nat), k ≤ n ∧ c ≤ n0 ∧ n0 ≤ c0 ∧ c ≤ c0 ∧ v = .slice (some ⟨w.heap.size, 0, none⟩) c c0 ∧ i = .int .i64 k ∧ Below w.heap.size w wr ∧ w.heap.size < wr.heap.size ∧ Hid (RuneRow wr (some ⟨w.heap.size, 0, none⟩) (zsOf ss 0)) ∧ Hid (IsCommon (zsOf ss) k c)) (fun _ i _ => n - (intOf i).toNat)
  case atStart => exact ⟨0, n0, 0, Nat.zero_le _, Nat.le_refl _, hcg0, hcg0, rfl, rfl, (Below.refl _ w).drew.alloc (Nat.le_refl _) _, by simp, hrow, by rw [Hn0.out]; exact ⟨Nat.le_refl _, fun i _ j hj => by omega, .inl rfl⟩⟩
  case round =>
    obtain ⟨wo, rfl⟩ : ∃ x, x = wr := ⟨_, rfl⟩
    obtain ⟨k, c, cp, hk, hcn, hnc, hcc, rfl, rfl, hb, hwl, HR, HI⟩ := hrel
    by_cases hlt : k < n
    · have hck : wo.cell? ⟨b, off + k, none⟩ = some (.string (txt ss k)) := (hb.cell (p := ⟨b, off + k, none⟩) hbl).trans (HC.out k (by rw [← Hn.out]; exact hlt))
      have hsz := HS.out (txt ss k) (txt_mem ss k (by rw [← Hn.out]; exact hlt))
      have hcv := HK.out wo (txt ss k) hsz
      have hlk := runes_length (txt ss k)
      have hcgk := runeCap_ge wo 21 (txt ss k)
      obtain ⟨ck, hck'⟩ : ∃ c, c = runeCap wo 21 (txt ss k) := ⟨_, rfl⟩
      obtain ⟨nk, hnk⟩ : ∃ c, c = (runes (txt ss k)).length := ⟨_, rfl⟩
      obtain ⟨rk, hrk⟩ : ∃ c, c = runeCells (txt ss k) ck := ⟨_, rfl⟩
      rw [← hck'] at hcv hcgk
      rw [← hnk, ← hrk] at hcv
      rw [← hnk] at hcgk hlk
      have hb1 : Below wo.heap.size wo (wo.drew.alloc (.cells rk 21)) := (Below.refl _ wo).drew.alloc (Nat.le_refl _) _
      have HRK : Hid (RuneRow (wo.drew.alloc (.cells rk 21)) (some ⟨wo.heap.size, 0, none⟩) (zsOf ss k)) := RuneRow.of fun j hj => by
        have := runeCells_at (txt ss k) ck j hj
        rw [← hrk] at this
        simpa [go_sem, zsOf] using this
      have HR0 : Hid (RuneRow (wo.drew.alloc (.cells rk 21)) (some ⟨w.heap.size, 0, none⟩) (zsOf ss 0)) := HR.out.below hb1
      have Hnk : Hid (nk = (zsOf ss k).length) := hnk
      clear hnk hrk hck'
      go_wp2_with fail
      go_loopw [6] (fun v wx => ∃ m : Nat, m ≤ c ∧ m ≤ nk ∧ v = .int .i64 m ∧ Below (wo.heap.size + 1) (wo.drew.alloc (.cells rk 21)) wx ∧ Hid (∀ i, i < m → SameAt (zsOf ss) k i)) (fun v _ => c - (intOf v).toNat)
      case atStart => exact ⟨0, Nat.zero_le _, Nat.zero_le _, rfl, Below.refl _ _, fun i hi => by omega⟩
      case round =>
        obtain ⟨m, hmc, hmk, rfl, hb2, HA⟩ := hrel
        have hbw : Below w.heap.size w wr := hb.trans ((hb1.trans (hb2.mono (Nat.le_succ _))).mono hb.size)
        have hws : w.heap.size < wr.heap.size := by have := hb2.size; simp at this; omega
        have HR2 : Hid (RuneRow wr (some ⟨w.heap.size, 0, none⟩) (zsOf ss 0)) := HR0.out.below (hb2.mono (by simp))
        by_cases h1 : m < c
        · by_cases h2 : m < nk
          · obtain ⟨_, _, e1, hx1⟩ := HR2.out m (by rw [← Hn0.out]; omega)
            cases e1
            obtain ⟨_, _, e2, hx2⟩ := (HRK.out.below (hb2.mono (by simp))) m (by rw [← Hnk.out]; exact h2)
            cases e2
            rw [Nat.zero_add] at hx1 hx2
            by_cases hxy : nth (zsOf ss 0) m = nth (zsOf ss k) m
            · have hxy' : (nth (zsOf ss 0) m == nth (zsOf ss k) m) = true := by simp [hxy]
              have HXY := Go.Lib.hid hxy
              clear hxy
              go_wp2_with fail
              go_quiet (fail)
              go_wp2_with fail
              go_roundw
              case rel => exact ⟨m + 1, h1, h2, by go_num, below_drewN hb2 _, fun i hi => by
                by_cases e : i < m
                · exact HA.out i e
                · obtain rfl : i = m := by omega
                  exact ⟨by rw [← Hnk.out]; exact h2, HXY.out.symm⟩⟩
              case measure => simp [intOf]; omega
            · have hxy' : (nth (zsOf ss 0) m == nth (zsOf ss k) m) = false := by simpa using hxy
              have HXY := Go.Lib.hid hxy
              clear hxy
              go_wp2_with fail
              go_quiet (fail)
              go_wp2_with fail
              go_roundw
              case rel => exact ⟨k + 1, m, 0, hlt, by omega, hnc, by omega, rfl, by go_num, below_drewN hbw _, by simpa using hws, HR2, HI.out.step hmc HA.out (.inr fun h => HXY.out h.2.symm)⟩
              case measure => simp [intOf]; omega
          · go_wp2_with fail
            go_quiet (fail)
            go_wp2_with fail
            go_roundw
            case rel => exact ⟨k + 1, m, 0, hlt, by omega, hnc, by omega, rfl, by go_num, below_drewN hbw _, by simpa using hws, HR2, HI.out.step hmc HA.out (.inr fun h => h2 (by rw [Hnk.out]; exact h.1))⟩
            case measure => simp [intOf]; omega
        · go_wp2_with fail
          go_quiet (fail)
          go_wp2_with fail
          go_roundw
          case rel => exact ⟨k + 1, m, 0, hlt, by omega, hnc, by omega, rfl, by go_num, below_drewN hbw _, by simpa using hws, HR2, HI.out.step hmc HA.out (.inl (by omega))⟩
          case measure => simp [intOf]; omega
    · obtain rfl : k = n := by omega
      obtain ⟨F, hF⟩ : ∃ F, F = (zsOf ss 0).take c := ⟨_, rfl⟩
      have hFl : F.length = c := by rw [hF]; simp; rw [← Hn0.out]; omega
      have hcv := conv_runes wo w.heap.size c0 F (fun j hj => by
        obtain ⟨_, _, e, hx⟩ := (HR.out.take c) j (by rw [← hF]; exact hj)
        cases e
        rw [← hF, Nat.zero_add] at hx
        exact hx)
      rw [hFl] at hcv
      have HF := Go.Lib.hid hF
      clear hF hFl
      go_wp2_with fail
      go_returns
      exact ⟨c, HI.out, by first | (rw [HF.out]; done) | (rw [HF.out]; rfl), hb⟩
end Go.Proofs.YtkljpbpojbhbbaaDoor
