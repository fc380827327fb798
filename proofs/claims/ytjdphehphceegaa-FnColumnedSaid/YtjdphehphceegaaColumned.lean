/- laws.FnColumned holds at every list of texts. -/
import Derived.Test.YtjdphehphceegaaColLaw
namespace Go.Proofs.Ytjdphehphceegaa
open Go.RowKit
set_option linter.unusedVariables false
set_option linter.unusedSimpArgs false
namespace fnColumned

def OkS (s : ByteArray) (j : Nat) : Prop := ∀ (i : Nat) (hi : i < s.size), i < j → OkB ((s[i]'hi).toNat : Int) ∧ s.size ≤ 100
def Fine (ss : List ByteArray) (k : Nat) : Prop := ∀ i, i < k → OkS (txt ss i) (txt ss i).size
theorem fine_next {ss : List ByteArray} {k : Nat} (h : Fine ss k) (h2 : OkS (txt ss k) (txt ss k).size) : Fine ss (k + 1) := fun i hi => by
  by_cases e : i < k
  · exact h i e
  · obtain rfl : i = k := by omega
    exact h2
theorem fine_out {ss : List ByteArray} {n : Nat} (h : Fine ss n) : ∀ j, j < n → (txt ss j).size ≤ 100 ∧ Prt (clean (txt ss j)) := fun j hj => by
  have h1 := h j hj
  refine ⟨?_, prt_clean _ fun i hi => (h1 i hi hi).1⟩
  by_cases e : (txt ss j).size = 0
  · omega
  · exact (h1 0 (by omega) (by omega)).2
theorem oks_next {s : ByteArray} {j : Nat} (h : OkS s j) (hj : j < s.size) (hb : OkB ((s[j]'hj).toNat : Int)) (hs : s.size ≤ 100) : OkS s (j + 1) := fun i hi hij => by
  by_cases e : i < j
  · exact h i hi e
  · obtain rfl : i = j := by omega
    exact ⟨hb, hs⟩

set_option maxRecDepth 100000 in
set_option maxHeartbeats 4000000 in
theorem walk (a : Option Addr) (len cap : Nat) (ss : List ByteArray) (most : Int) (p q : ByteArray) (w : World) (h : ss.length = len ∧ IsStrs w a ss) (hmw : (Lit.int .i64 most).wf = true) (hpz : p.size ≤ maxLen) (hqz : q.size ≤ maxLen) :
    Calls Try.prog 3 #[.slice a len cap, .int .i64 most, .string p, .string q] w fun e w' => e = .returned (.bool true) ∧ Below w.heap.size w w' := by
  obtain ⟨rfl, h⟩ := h
  have HF := Go.Lib.hid (fits1_any a cap ss w h)
  have HI := Go.Lib.hid h
  unfold maxLen at hpz hqz
  obtain ⟨n, hn⟩ : ∃ n, n = ss.length := ⟨_, rfl⟩
  have HN := Go.Lib.hid hn
  rw [← hn] at HF ⊢
  clear hn h hmw
  go_enter Try.func3, Try.ntmps3
  go_wp2_with fail
  refine HF.out.mono ?_
  rintro e w1 ⟨bb, rfl, hbb, rfl⟩
  have HB := Go.Lib.hid hbb
  clear hbb HF
  cases bb with
  | false =>
    go_wp2_with fail
    go_returns
    exact ⟨rfl, Below.refl _ _⟩
  | true =>
    by_cases g1 : (2147483647 : Int) < p.size
    · go_wp2_with fail
      go_returns
      exact ⟨rfl, Below.refl _ _⟩
    by_cases g2 : (2147483647 : Int) < q.size
    · go_wp2_with fail
      go_returns
      exact ⟨rfl, Below.refl _ _⟩
    by_cases g3 : (12 : Int) < n
    · go_wp2_with fail
      go_returns
      exact ⟨rfl, Below.refl _ _⟩
    by_cases g4 : most < 0
    · go_wp2_with fail
      go_returns
      exact ⟨rfl, Below.refl _ _⟩
    by_cases g5 : 100 < most
    · go_wp2_with fail
      go_returns
      exact ⟨rfl, Below.refl _ _⟩
    by_cases g6 : Prints p
    case neg =>
      have H6 := Go.Lib.hid (printable_no p w1 (by omega) g6)
      clear g6
      go_wp2_with fail
      refine H6.out.mono ?_
      rintro e w2 ⟨rfl, rfl⟩
      go_wp2_with fail
      go_returns
      exact ⟨rfl, Below.refl _ _⟩
    have H6 := Go.Lib.hid (printable_yes p w1 g6)
    have HPP := Go.Lib.hid g6
    clear g6
    by_cases g7 : Prints q
    case neg =>
      have H7 := Go.Lib.hid (printable_no q w1 (by omega) g7)
      clear g7
      go_wp2_with fail
      refine H6.out.mono ?_
      rintro e w2 ⟨rfl, rfl⟩
      go_wp2_with fail
      refine H7.out.mono ?_
      rintro e w2 ⟨rfl, rfl⟩
      go_wp2_with fail
      go_returns
      exact ⟨rfl, Below.refl _ _⟩
    have H7 := Go.Lib.hid (printable_yes q w1 g7)
    have HQQ := Go.Lib.hid g7
    clear g7
    by_cases g8 : (20 : Int) < (p.size : Int) + q.size
    · go_wp2_with fail
      refine H6.out.mono ?_
      rintro e w2 ⟨rfl, rfl⟩
      go_wp2_with fail
      refine H7.out.mono ?_
      rintro e w2 ⟨rfl, rfl⟩
      go_wp2_with fail
      go_returns
      exact ⟨rfl, Below.refl _ _⟩
    obtain ⟨m, rfl⟩ : ∃ m : Nat, most = m := ⟨most.toNat, by omega⟩
    go_wp2_with fail
    refine H6.out.mono ?_
    rintro e w2 ⟨rfl, rfl⟩
    go_wp2_with fail
    refine H7.out.mono ?_
    rintro e w2 ⟨rfl, rfl⟩
    go_wp2_with fail
    clear H6 H7
    go_loop [9] (fun i => ∃ k : Nat, k ≤ n ∧ i = .int .i64 k ∧ Hid (Fine ss k)) (fun i => n - (intOf i).toNat)
    case atStart => exact ⟨0, Nat.zero_le _, rfl, fun i hi => by omega⟩
    case round =>
      obtain ⟨k, hk, rfl, HG⟩ := hrel
      by_cases hlt : k < n
      · rcases HI.out with e | ⟨b, off, rfl, hbl, hc⟩
        · have := HN.out; rw [e] at this; simp at this; omega
        have hck := hc k (by rw [← HN.out]; exact hlt)
        clear hc
        have HFN := Go.Lib.hid fun h2 => fine_next HG.out h2
        generalize txt ss k = s at hck HFN
        go_wp2_with fail
        go_loop [10] (fun c => ∃ j : Nat, j ≤ s.size ∧ c = .int .i64 j ∧ Hid (OkS s j)) (fun c => s.size - (intOf c).toNat)
        case atStart => exact ⟨0, Nat.zero_le _, rfl, fun i hi h => by omega⟩
        case round =>
          obtain ⟨j, hj, rfl, HS⟩ := hrel
          by_cases hjs : j < s.size
          · have HSN := Go.Lib.hid fun hb hs => oks_next HS.out hjs hb hs
            by_cases e1 : (s[j].toNat : Int) = 10
            · by_cases g9 : (100 : Int) < s.size
              · go_wp2_with fail
                go_returns
                exact ⟨rfl, Below.refl _ _⟩
              · have HN2 := Go.Lib.hid (HSN.out (.inl e1) (by omega))
                go_wp2_with fail
                go_round
                case rel => exact ⟨j + 1, by omega, by go_num, HN2.out⟩
                case measure => simp [intOf]; omega
            have f1 : ((s[j].toNat : Int) != 10) = true := by simpa using e1
            by_cases e2 : (s[j].toNat : Int) = 13
            · by_cases g9 : (100 : Int) < s.size
              · go_wp2_with fail
                go_returns
                exact ⟨rfl, Below.refl _ _⟩
              · have HN2 := Go.Lib.hid (HSN.out (.inr (.inl e2)) (by omega))
                go_wp2_with fail
                go_round
                case rel => exact ⟨j + 1, by omega, by go_num, HN2.out⟩
                case measure => simp [intOf]; omega
            have f2 : ((s[j].toNat : Int) != 13) = true := by simpa using e2
            by_cases e3 : (s[j].toNat : Int) < 32
            · go_wp2_with fail
              go_returns
              exact ⟨rfl, Below.refl _ _⟩
            by_cases e4 : 126 < (s[j].toNat : Int)
            · go_wp2_with fail
              go_returns
              exact ⟨rfl, Below.refl _ _⟩
            by_cases g9 : (100 : Int) < s.size
            · go_wp2_with fail
              go_returns
              exact ⟨rfl, Below.refl _ _⟩
            · have HN2 := Go.Lib.hid (HSN.out (.inr (.inr ⟨by omega, by omega⟩)) (by omega))
              go_wp2_with fail
              go_round
              case rel => exact ⟨j + 1, by omega, by go_num, HN2.out⟩
              case measure => simp [intOf]; omega
          · obtain rfl : j = s.size := by omega
            go_wp2_with fail
            go_round
            case rel => exact ⟨k + 1, by omega, by go_num, HFN.out HS.out⟩
            case measure => simp [intOf]; omega
      · obtain rfl : k = n := by omega
        have hX := fine_out HG.out
        rw [HN.out] at hX
        have h12 : ss.length ≤ 12 := by have := HN.out; omega
        have hps : p.size + q.size ≤ 20 := by omega
        have hm : m ≤ 100 := by omega
        have h1 := spec_col a cap m ss p q w1 HI.out h12 (fun j hj => (hX j hj).1) hps hm
        have h2 := fun (w' : World) (hb : Below w1.heap.size w1 w') => impl_col a cap m ss p q w' (HI.out.below hb) h12 hX HPP.out.1 HQQ.out.1 hps hm
        unfold ImplCol at h2
        rw [← HN.out] at h1 h2
        have H1 := Go.Lib.hid h1
        have H2 := Go.Lib.hid h2
        generalize fmtR ss m p q = R at H1 H2
        generalize fmtZ ss m p q = Z at H1 H2
        clear h1 h2 hX
        go_wp2_with fail
        refine H1.out.mono ?_
        rintro e w2 ⟨b1, rfl, hb1, hr1, k1⟩
        have HR1 := Go.Lib.hid hr1
        have K1 := Go.Lib.hid k1
        clear hr1 k1
        go_wp2_with fail
        refine (H2.out w2 K1.out).mono ?_
        rintro e w3 ⟨b2, rfl, hb2, hr2, k2⟩
        have HR2 := Go.Lib.hid hr2
        have HR3 := Go.Lib.hid (HR1.out.below k2)
        have K2 := Go.Lib.hid (K1.out.trans (k2.mono K1.out.size))
        have hzz : ((Z : Int) == (Z : Int)) = true := by simp
        clear hr2 k2
        go_wp2_with fail
        refine (same_col b2 b1 k R w3 HR2.out HR3.out (by omega)).mono ?_
        rintro e w4 ⟨rfl, k4⟩
        have K4 := Go.Lib.hid (K2.out.trans (k4.mono K2.out.size))
        clear k4
        go_wp2_with fail
        go_returns
        exact ⟨rfl, K4.out⟩
end fnColumned
end Go.Proofs.Ytjdphehphceegaa
