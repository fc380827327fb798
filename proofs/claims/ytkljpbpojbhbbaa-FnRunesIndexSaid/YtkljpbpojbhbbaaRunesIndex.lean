/- The walk of laws.FnRunesIndex: the package's first place of a code point is the reference's. -/
import Derived.Test.YtkljpbpojbhbbaaWhole
namespace Go.Proofs.Ytkljpbpojbhbbaa
open Go.RowKit
set_option linter.unusedVariables false
set_option linter.unusedSimpArgs false

theorem index_any (g cap : Nat) (zs : List Int) (c : Int) (w : World) (hcell : ∀ j, j < zs.length → w.cell? ⟨g, j, none⟩ = some (.int .i32 (nth zs j))) (hlen : zs.length ≤ 2147483647) :
    Calls Try.prog 18 #[.agg #[], .int .i32 c, .slice (some ⟨g, 0, none⟩) zs.length cap] w fun e w' => e = .returned (.int .i64 (firstFrom zs c 0)) ∧ w' = w.alloc (.cells #[] 40) := by
  have H := Go.Lib.hid hcell
  clear hcell
  have H0 : Hid (firstFrom zs c 0 = firstFrom zs c 0) := rfl
  obtain ⟨res, hres⟩ : ∃ r, r = firstFrom zs c 0 := ⟨_, rfl⟩
  rw [← hres]
  have Hr := Go.Lib.hid hres
  clear hres H0
  obtain ⟨n, hn⟩ : ∃ n, n = zs.length := ⟨_, rfl⟩
  rw [← hn] at hlen ⊢
  have Hn := Go.Lib.hid hn
  clear hn
  go_enter Try.func18, Try.ntmps18
  go_wp2
  go_loop [7] (fun i => ∃ k : Nat, k ≤ n ∧ i = .int .i64 k ∧ Hid (res = firstFrom zs c k)) (fun i => n - (intOf i).toNat)
  case atStart => exact ⟨0, Nat.zero_le _, rfl, Hr⟩
  case round =>
    obtain ⟨k, hk, rfl, HK⟩ := hrel
    by_cases hlt : k < n
    · have hc := H.out k (by rw [← Hn.out]; exact hlt)
      have hg : g < w.heap.size := World.block_lt_of_cell? (a := ⟨g, k, none⟩) _ hc
      have HS := Go.Lib.hid (firstFrom_step zs c k (by rw [← Hn.out]; exact hlt))
      by_cases hz : nth zs k = c
      · have hz' : (nth zs k == c) = true := by simp [hz]
        have HZ := Go.Lib.hid hz
        clear hz
        go_wp2
        go_returns
        exact ⟨by have := HS.out; rw [if_pos HZ.out] at this; rw [HK.out, this]; rfl, rfl⟩
      · have hz' : (nth zs k == c) = false := by simpa using hz
        have HZ := Go.Lib.hid hz
        clear hz
        go_wp2
        go_round
        case rel => exact ⟨k + 1, by omega, by go_num, by have := HS.out; rw [if_neg HZ.out] at this; exact HK.out.trans this⟩
        case measure => simp [intOf]; omega
    · have e : res = -1 := HK.out.trans (firstFrom_end zs c k (by rw [← Hn.out]; omega))
      have E := Go.Lib.hid e
      clear e
      go_wp2
      go_returns
      exact ⟨by rw [E.out]; rfl, rfl⟩

theorem runesIndex_any (s : ByteArray) (c : Int) (w : World) (hs : s.size ≤ 300) (h0 : -2147483648 ≤ c) (h1 : c ≤ 2147483647) :
    Calls Try.prog 8 #[.string s, .int .i64 c] w fun e w' => e = .returned (.int .i64 (firstFrom (runes s) c 0)) ∧ Below w.heap.size w w' := by
  have hk := fun w => run_runes (P := Try.prog) w 9 23 21 s Try.underlying9 Try.underlying23 Try.underlying21 (by omega)
  have hl := runes_length s
  go_enter Try.func8, Try.ntmps8
  go_wp2_with fail
  refine (index_any w.heap.size _ (runes s) c _ ?_ (by omega)).mono ?_
  · intro j hj
    simp [runeCells_at s _ j hj, go_sem]
  rintro e w1 ⟨rfl, rfl⟩
  go_wp2_with fail
  go_returns
  exact ⟨rfl, by go_grown⟩

namespace fnRunesIndex
theorem walk (s : ByteArray) (c : Int) (w : World) (hs : s.size ≤ maxLen) (hc : (Lit.int .i32 c).wf = true) :
    Calls Try.prog 3 #[.string s, .int .i32 c] w fun e w' => e = .returned (.bool true) ∧ Below w.heap.size w w' := by
  have bd := bounds_i32 hc
  clear hc
  by_cases h1 : 2147483647 < (s.size : Int)
  · unfold maxLen at hs
    go_enter Try.func3, Try.ntmps3
    go_wp2_with fail
    go_returns
    exact ⟨rfl, Below.refl _ _⟩
  have hk := fun w => run_runes (P := Try.prog) w 9 23 21 s Try.underlying9 Try.underlying23 Try.underlying21 (by omega)
  have hl := runes_length s
  go_enter Try.func3, Try.ntmps3
  go_wp2_with fail
  refine (whole9_one w.heap.size s _ (by simp [go_sem]) (by omega)).mono ?_
  rintro e w1 ⟨b, rfl, hv, b1⟩
  have HV := Go.Lib.hid hv
  clear hv
  have hb1 : Below w.heap.size w w1 := ((Below.refl _ _).alloc (Nat.le_refl _) _).trans (b1.mono (by simp))
  have hsz := hb1.size
  cases b with
  | false =>
    go_wp2_with fail
    go_returns
    exact ⟨rfl, hb1⟩
  | true =>
    have h300 := (HV.out rfl).1
    have hrow : Hid (∀ j, j < (runes s).length → (runeCells s (runeCap w1 21 s))[j]? = some (.int .i32 (nth (runes s) j))) := fun j hj => runeCells_at s _ j hj
    obtain ⟨zs, hzs⟩ : ∃ zs, zs = runes s := ⟨_, rfl⟩
    have hcap := runeCap_ge w1 21 s
    obtain ⟨n, hn⟩ : ∃ n, n = zs.length := ⟨_, rfl⟩
    simp only [← hzs, ← hn] at hk hl hcap hrow
    have HN := Go.Lib.hid hn
    have HZ := Go.Lib.hid hzs
    clear hn hzs
    go_wp2_with fail
    go_loop [5, 7] (fun want i => ∃ i0 : Int, i = .int .i64 i0 ∧ -1 ≤ i0 ∧ i0 < n ∧ want = .int .i64 (firstFrom zs c (i0 + 1).toNat)) (fun _ i => (intOf i + 1).toNat)
    case atStart => exact ⟨(n : Int) - 1, rfl, by omega, by omega, by rw [show ((n : Int) - 1 + 1).toNat = n from by omega, firstFrom_end zs c n (by rw [HN.out]; exact Nat.le_refl _)]⟩
    case round =>
      obtain ⟨i0, rfl, hi1, hi2, rfl⟩ := hrel
      by_cases hi0 : 0 ≤ i0
      · obtain ⟨m, rfl⟩ := Int.eq_ofNat_of_zero_le hi0
        have hm : m < n := by omega
        have hcm := hrow.out m hm
        have HS := Go.Lib.hid (firstFrom_step zs c m (by rw [← HN.out]; exact hm))
        by_cases hz : nth zs m = c
        · have hz' : (nth zs m == c) = true := by simp [hz]
          have HE := Go.Lib.hid hz
          clear hz
          go_wp2_with fail
          go_round
          case rel => exact ⟨(m : Int) - 1, rfl, by omega, by omega, by have := HS.out; rw [if_pos HE.out] at this; rw [show ((m : Int) - 1 + 1).toNat = m from by omega, this]⟩
          case measure => simp [intOf]
        · have hz' : (nth zs m == c) = false := by simpa using hz
          have HE := Go.Lib.hid hz
          clear hz
          go_wp2_with fail
          go_round
          case rel => exact ⟨(m : Int) - 1, rfl, by omega, by omega, by have := HS.out; rw [if_neg HE.out] at this; rw [show ((m : Int) - 1 + 1).toNat = m from by omega, this, show ((m : Int) + 1).toNat = m + 1 from by omega]⟩
          case measure => simp [intOf]
      · obtain rfl : i0 = -1 := by omega
        have e2 : firstFrom zs c ((-1 : Int) + 1).toNat = firstFrom zs c 0 := rfl
        rw [e2]
        go_wp2_with fail
        refine (runesIndex_any s c _ h300 (by omega) (by omega)).mono ?_
        rw [← HZ.out]
        rintro e w2 ⟨rfl, b2⟩
        have e3 : firstFrom (runes ⟨#[97, 98]⟩) 98 0 = 1 := by decide +kernel
        go_wp2_with fail
        refine (runesIndex_any ⟨#[97, 98]⟩ 98 w2 (by decide) (by omega) (by omega)).mono ?_
        rw [e3]
        rintro e w3 ⟨rfl, b3⟩
        clear e3
        go_wp2_with fail
        go_returns
        have b4 : Below w.heap.size w w2 := (((hb1.alloc (by omega) _).drew).trans (b2.mono (by simp; omega)))
        exact ⟨rfl, b4.trans (b3.mono b4.size)⟩
end fnRunesIndex
end Go.Proofs.Ytkljpbpojbhbbaa
