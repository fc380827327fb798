/- spec.Small, laws.names9, spec.Offers, spec.SameTexts9; readline.Runes: Equal, HasPrefix, TrimSpaceLeft; unicode.IsSpace at ASCII. -/
import Derived.Test.YtmkefndmiagoaaaDoorOfPlain
import Derived.Test.YtmkefndmiagoaaaDoorImplAggregated
import Derived.Deep.QuietTactic
import Derived.BigQuiet
namespace Go.Proofs.YtmkefndmiagoaaaDoor
open Go.RowKit
set_option linter.unusedVariables false
set_option linter.unusedSimpArgs false

def SmallPost (s : ByteArray) (w : World) (e : Ending) (w' : World) : Prop := ∃ b, e = .returned (.bool b) ∧ (b = true → IsSmall s) ∧ w = w'
theorem small_any (s : ByteArray) (w : World) (hs : s.size ≤ 2147483647) : Calls Tryd.prog 8 #[.string s] w (SmallPost s w) := by
  go_enter Tryd.func8, Tryd.ntmps8
  go_wp2_with fail
  go_loopw [6] (fun i wr => ∃ k : Nat, k ≤ s.size ∧ i = .int .i64 k ∧ w = wr ∧ Hid (∀ j (hj : j < s.size), j < k → 97 ≤ (s[j]'hj).toNat ∧ (s[j]'hj).toNat ≤ 122)) (fun i _ => s.size - (intOf i).toNat)
  case atStart => exact ⟨0, Nat.zero_le _, rfl, rfl, fun j _ hj => by omega⟩
  case round =>
    obtain ⟨k, hk, rfl, rfl, HG⟩ := hrel
    by_cases hlt : k < s.size
    · have hk0 : (0 : Int) ≤ k := by omega
      have hk1 : (k : Int) < s.size := by omega
      obtain ⟨z, hz⟩ : ∃ z, z = (s[k]'hlt).toNat := ⟨_, rfl⟩
      have HZ := Go.Lib.hid hz
      have hz' : ∀ h, (s[k]'h).toNat = z := fun _ => hz.symm
      clear hz
      by_cases h1 : (z : Int) < 97
      · go_wp2_with fail
        go_returns
        exact ⟨false, rfl, (fun h => by cases h), rfl⟩
      · by_cases h2 : (122 : Int) < z
        · go_wp2_with fail
          go_returns
          exact ⟨false, rfl, (fun h => by cases h), rfl⟩
        · go_wp2_with fail
          go_roundw
          case rel => exact ⟨k + 1, by omega, by go_num, trivial, fun j hj hjk => by
            by_cases e : j < k
            · exact HG.out j hj e
            · obtain rfl : j = k := by omega
              rw [← HZ.out]; omega⟩
          case measure => simp [intOf]; omega
    · have HS : Hid (IsSmall s) := fun b hb => by
        obtain ⟨j, hj, rfl⟩ := List.getElem_of_mem hb
        have hj' : j < s.size := by simpa using hj
        exact HG.out j hj' (by omega)
      go_wp2_with fail
      go_returns
      exact ⟨true, rfl, fun _ => HS.out, rfl⟩

/-- Words as a completer has them. -/
structure Names (ss : List ByteArray) : Prop where
  len : ss.length ≤ 8
  word : ∀ j, j < ss.length → 0 < (txt ss j).size ∧ (txt ss j).size ≤ 12 ∧ IsSmall (txt ss j)
  diff : ∀ i j, i < j → j < ss.length → txt ss i ≠ txt ss j
def NamesPost (ss : List ByteArray) (w : World) (e : Ending) (w' : World) : Prop := ∃ b, e = .returned (.bool b) ∧ (b = true → Names ss) ∧ Below w.heap.size w w'

theorem size_pos {s : ByteArray} (h : s.toList.isEmpty = false) : 0 < s.size := by
  by_cases e : s.size = 0
  · exfalso
    have : s = ⟨#[]⟩ := ba_ext (by
      have h1 : s.data.toList.length = 0 := by simpa using e
      rw [List.length_eq_zero_iff.1 h1])
    rw [this] at h
    exact absurd h (by decide +kernel)
  · omega

set_option maxHeartbeats 1000000 in
theorem names_any (a : Option Addr) (cap : Nat) (ss : List ByteArray) (w : World) (h : IsStrs w a ss) (hs : ∀ s ∈ ss, s.size ≤ 2147483647) (hl : ss.length ≤ 2147483647) :
    Calls Tryd.prog 7 #[.slice a ss.length cap] w (NamesPost ss w) := by
  obtain ⟨n, hn⟩ : ∃ n, n = ss.length := ⟨_, rfl⟩
  rw [← hn] at hl ⊢
  have Hn := Go.Lib.hid hn
  have HS := Go.Lib.hid hs
  have HH := Go.Lib.hid h
  clear hn hs h
  go_enter Tryd.func7, Tryd.ntmps7
  go_wp2_with fail
  go_loopw [7] (fun i wr => ∃ k : Nat, k ≤ n ∧ i = .int .i64 k ∧ Below w.heap.size w wr ∧ Hid ((∀ j, j < k → 0 < (txt ss j).size ∧ (txt ss j).size ≤ 12 ∧ IsSmall (txt ss j)) ∧ ∀ i j, i < j → j < k → txt ss i ≠ txt ss j)) (fun i _ => n - (intOf i).toNat)
  case atStart => exact ⟨0, Nat.zero_le _, rfl, Below.refl _ _, fun j hj => by omega, fun i j _ hj => by omega⟩
  case round =>
    obtain ⟨k, hk, rfl, hb, HG⟩ := hrel
    by_cases hlt : k < n
    · have hsz := HS.out (txt ss k) (txt_mem ss k (by rw [← Hn.out]; exact hlt))
      rcases HH.out with e | ⟨b, off, rfl, hbl, hc⟩
      · have := Hn.out; rw [e] at this; simp at this; omega
      have HC : Hid (∀ j, j < n → ∀ W : World, Below w.heap.size w W → W.cell? ⟨b, off + j, none⟩ = some (.string (txt ss j))) := fun j hj W hW => (hW.cell (p := ⟨b, off + j, none⟩) hbl).trans (hc j (by rw [← Hn.out]; exact hj))
      have hck := HC.out k hlt wr hb
      clear hc
      have HB := Go.Lib.hid hb
      obtain ⟨x, hx⟩ : ∃ x, x = txt ss k := ⟨_, rfl⟩
      have HX := Go.Lib.hid hx
      rw [← hx] at hck hsz
      clear hx hb
      have hk0 : (0 : Int) ≤ k := by omega
      have hk1 : (k : Int) < n := by omega
      cases h1 : x.toList.isEmpty
      case true =>
        go_wp2_with fail
        go_returns
        exact ⟨false, rfl, (fun h => by cases h), HB.out⟩
      have HPOS := Go.Lib.hid (size_pos h1)
      by_cases h2 : (12 : Int) < x.size
      · go_wp2_with fail
        go_returns
        exact ⟨false, rfl, (fun h => by cases h), HB.out⟩
      go_wp2_with fail
      refine (small_any x wr hsz).mono ?_
      rintro e w1 ⟨r, rfl, hr, rfl⟩
      have HR := Go.Lib.hid hr
      clear hr
      cases r
      · go_wp2_with fail
        go_returns
        exact ⟨false, rfl, (fun h => by cases h), HB.out⟩
      have HX3 : Hid (0 < x.size ∧ x.size ≤ 12 ∧ IsSmall x) := ⟨HPOS.out, by omega, HR.out (by trivial)⟩
      go_wp2_with fail
      obtain ⟨wo, hwo⟩ : ∃ x, x = wr := ⟨_, rfl⟩
      go_loopw [32] (fun i wr => ∃ q : Nat, q ≤ k ∧ i = .int .i64 q ∧ Hid (Below w.heap.size w wr) ∧ Hid (∀ j, j < q → txt ss j ≠ x)) (fun i _ => k - (intOf i).toNat)
      case atStart => exact ⟨0, Nat.zero_le _, rfl, HB.out, fun j hj => by omega⟩
      case round =>
        obtain ⟨q, hq, rfl, HBQ, HD⟩ := hrel
        by_cases hqk : q < k
        · have cq := HC.out q (by omega) wr HBQ.out
          have ck := HC.out k hlt wr HBQ.out
          rw [← HX.out] at ck
          obtain ⟨y, hy⟩ : ∃ y, y = txt ss q := ⟨_, rfl⟩
          have HY := Go.Lib.hid hy
          rw [← hy] at cq
          clear hy hck
          have hq0 : (0 : Int) ≤ q := by omega
          have hq1 : (q : Int) < k := by omega
          have hq2 : (q : Int) < n := by omega
          cases he : (y.toList == x.toList)
          case true =>
            go_wp2_with fail
            go_quiet (fail)
            have HBN : Hid (Below w.heap.size w (wr.drewN nq)) := below_drewN HBQ.out _
            go_wp2_with fail
            go_returns
            exact ⟨false, rfl, (fun h => by cases h), HBN.out⟩
          have HNE : Hid (y ≠ x) := fun e => by rw [e] at he; simp at he
          go_wp2_with fail
          go_quiet (fail)
          have HBN : Hid (Below w.heap.size w (wr.drewN nq)) := below_drewN HBQ.out _
          go_wp2_with fail
          go_roundw
          case rel => exact ⟨q + 1, by omega, by go_num, HBN.out, fun j hj => by
            by_cases e : j < q
            · exact HD.out j e
            · obtain rfl : j = q := by omega
              rw [← HY.out]; exact HNE.out⟩
          case measure => simp [intOf]; omega
        · have hq1 : ¬ (q : Int) < k := by omega
          have HDK : Hid (∀ j, j < k → txt ss j ≠ x) := fun j hj => HD.out j (by omega)
          clear hck
          go_wp2_with fail
          go_roundw
          case rel => exact ⟨k + 1, by omega, by go_num, HBQ.out, fun j hj => by
            by_cases e : j < k
            · exact HG.out.1 j e
            · obtain rfl : j = k := by omega
              rw [← HX.out]; exact HX3.out, fun i j hij hj => by
            by_cases e : j < k
            · exact HG.out.2 i j hij e
            · obtain rfl : j = k := by omega
              rw [← HX.out]; exact HDK.out i hij⟩
          case measure => simp [intOf]; omega
    · obtain rfl : k = n := by omega
      have HB := Go.Lib.hid hb
      clear hb
      have hk1 : ¬ ((k : Int) < k) := by omega
      by_cases h8 : (k : Int) ≤ 8
      · have HN : Hid (Names ss) := ⟨by rw [← Hn.out]; omega, fun j hj => HG.out.1 j (by rw [Hn.out]; exact hj), fun i j hij hj => HG.out.2 i j hij (by rw [Hn.out]; exact hj)⟩
        go_wp2_with fail
        go_returns
        exact ⟨true, rfl, fun _ => HN.out, HB.out⟩
      · have h8' : decide ((k : Int) ≤ 8) = false := by simpa using h8
        go_wp2_with fail
        go_returns
        exact ⟨false, rfl, (fun h => by cases h), HB.out⟩

def strV (l : List ByteArray) : List Value := l.map .string
theorem strs_own {w : World} {base : Nat} {v : Value} {l : List ByteArray} (h : w.ownsRow base 9 1 v l.length (strV l)) : ∃ A c, v = .slice A l.length c ∧ IsStrs w A l := by
  rcases h.2 with ⟨rfl, h0⟩ | ⟨g, cap, cur, rfl, hg, hh, hc, _, hcs, htk⟩
  · have : l = [] := List.length_eq_zero_iff.1 h0
    subst this
    exact ⟨none, 0, rfl, .inl rfl⟩
  · refine ⟨_, cap, rfl, .inr ⟨g, 0, rfl, (Array.getElem?_eq_some_iff.1 hh).1, fun i hi => ?_⟩⟩
    rw [Nat.zero_add, World.cell?, hh]
    have := congrArg (·[i]?) htk
    rw [List.getElem?_take_of_lt (by omega)] at this
    simp [strV, hi] at this
    simp [this, txt, hi]

def StrsPost (l : List ByteArray) (w : World) (e : Ending) (w' : World) : Prop := ∃ A c, e = .returned (.slice A l.length c) ∧ IsStrs w' A l ∧ Below w.heap.size w w'

theorem offs_take (ss : List ByteArray) (b : ByteArray) (k : Nat) (hk : k < ss.length) : offs (ss.take (k + 1)) b = offs (ss.take k) b ++ (if beg (txt ss k) b = true then [left (txt ss k) b] else []) := by
  have e : ss.take (k + 1) = ss.take k ++ [txt ss k] := by rw [List.take_add_one]; simp [txt, hk]
  unfold offs
  rw [e, List.filter_append, List.map_append]
  congr 1
  by_cases h : beg (txt ss k) b = true
  · simp [h]
  · simp [h]

theorem news_str (w : World) (v : Value) (t : TypeId) : ∀ (j : Nat) (u : Value), [v][j]? = some u → (w.alloc (.cells #[v] t)).cell? ((⟨w.heap.size, 0, none⟩ : Addr).add j) = some u := by
  intro j u h
  match j, h with
  | 0, h => simp at h; subst h; simp [Addr.add]
  | j + 1, h => simp at h

set_option maxHeartbeats 1000000 in
theorem offers_any (a : Option Addr) (cap : Nat) (ss : List ByteArray) (b : ByteArray) (w : World) (h : IsStrs w a ss) (hl : ss.length ≤ 8) (hs : ∀ j, j < ss.length → (txt ss j).size ≤ 12) (hb : b.size ≤ 100) :
    Calls Tryd.prog 11 #[.slice a ss.length cap, .string b] w (StrsPost (offs ss b) w) := by
  obtain ⟨ib, hib, hz0, hz1, hz2⟩ := info_parts (show (Tryd.prog.info? 9).map (fun i => (i.zero, i.size, i.bytes)) = some (some (.string ⟨#[]⟩), 1, 16) by kernel_rfl)
  obtain ⟨n, hn⟩ : ∃ n, n = ss.length := ⟨_, rfl⟩
  rw [← hn] at hl ⊢
  have Hn := Go.Lib.hid hn
  have HS := Go.Lib.hid hs
  have HH := Go.Lib.hid h
  clear hn hs h
  go_enter Tryd.func11, Tryd.ntmps11
  go_wp2_with fail
  go_loopw [5, 9] (fun vv i wr => ∃ (k : Nat) (v : Value), v = vv ∧ k ≤ n ∧ i = .int .i64 k ∧ Hid (Below w.heap.size w wr) ∧ Hid (wr.ownsRow w.heap.size 9 1 v (offs (ss.take k) b).length (strV (offs (ss.take k) b))) ∧ (offs (ss.take k) b).length ≤ k) (fun _ i _ => n - (intOf i).toNat)
  case atStart => exact ⟨0, _, rfl, Nat.zero_le _, rfl, Below.refl _ _, World.ownsRow_nil _ _ _ _, Nat.le_refl _⟩
  case round =>
    obtain ⟨k, v, rfl, hk, rfl, HB, HO, hlk⟩ := hrel
    by_cases hlt : k < n
    · rcases HH.out with e | ⟨g, off, rfl, hbl, hc⟩
      · have := Hn.out; rw [e] at this; simp at this; omega
      have hck : wr.cell? ⟨g, off + k, none⟩ = some (.string (txt ss k)) := (HB.out.cell (p := ⟨g, off + k, none⟩) hbl).trans (hc k (by rw [← Hn.out]; exact hlt))
      have hsz := HS.out k (by rw [← Hn.out]; exact hlt)
      have HT := Go.Lib.hid (offs_take ss b k (by rw [← Hn.out]; exact hlt))
      clear hc
      generalize txt ss k = x at hck hsz HT
      have hk0 : (0 : Int) ≤ k := by omega
      have hk1 : (k : Int) < n := by omega
      have hbs := HB.out.size
      by_cases h1 : (b.size : Int) ≤ x.size
      · by_cases h2 : x.extract 0 b.size = b
        · have hq : ((x.extract 0 b.size).toList == b.toList) = true := by rw [h2]; simp
          have HBG : Hid (beg x b = true) := by unfold beg; rw [Hid, decide_eq_true_iff]; exact ⟨by omega, h2⟩
          have HE : Hid (offs (ss.take (k + 1)) b = offs (ss.take k) b ++ [left x b]) := by
            have := HT.out; rw [if_pos HBG.out] at this; exact this
          clear h2 HT
          obtain ⟨L2, hL2⟩ : ∃ L, L = offs (ss.take (k + 1)) b := ⟨_, rfl⟩
          rw [← hL2] at HE
          have HE2 := Go.Lib.hid hL2.symm
          clear hL2
          generalize offs (ss.take k) b = L1 at HE HO hlk
          have hnews := news_str wr (.string (left x b)) 9
          unfold left sp1 at hnews
          go_wp2_with (at_builtin; refine wpList_append_own _ rfl _ _ 22 rfl w.heap.size 9 ib (.string ⟨#[]⟩) 1 16 Tryd.underlying22 hib hz0 hz1 hz2 rfl (by decide) v L1.length (strV L1) rfl (HO.out.alloc _) ⟨wr.heap.size, 0, none⟩ 1 1 [.string (x.extract b.size x.size ++ ⟨#[32]⟩)] rfl rfl hnews (by simp [Value.oneCell']) ?c1 ?c2 ?c3 ?_)
          case c1 => unfold maxLen; omega
          case c2 => omega
          case c3 => simp; omega
          intro v2 w2 hown2 hgrow2 _
          have hlo := HO.out.lt
          have HB2 : Hid (Below w.heap.size w w2) := (HB.out.alloc hbs _).grown hgrow2 (by simp; omega) (fun j hj => (hlo j hj).1)
          have HO2 : Hid (w2.ownsRow w.heap.size 9 1 v2 L2.length (strV L2)) := by
            rw [Hid, HE.out]
            have e : strV (L1 ++ [left x b]) = strV L1 ++ [.string (x.extract b.size x.size ++ ⟨#[32]⟩)] := by simp [strV, left, sp1]
            rw [e, List.length_append]
            exact hown2
          have hl2 : L2.length ≤ k + 1 := by rw [HE.out]; simp; omega
          clear hown2 hgrow2 hlo hnews
          go_wp2_with fail
          go_roundw
          case rel => exact ⟨k + 1, v2, rfl, by omega, by go_num, HB2.out, by rw [HE2.out]; exact HO2.out, by rw [HE2.out]; exact hl2⟩
          case measure => simp [intOf]; omega
        · have hq : ((x.extract 0 b.size).toList == b.toList) = false := by
            rw [ByteArray.toList_eq, ByteArray.toList_eq, beq_eq_false_iff_ne]
            exact fun e => h2 (ba_ext e)
          have HE : Hid (offs (ss.take (k + 1)) b = offs (ss.take k) b) := by
            have := HT.out; rw [if_neg (by unfold beg; simp [h2]), List.append_nil] at this; exact this
          clear h2 HT
          go_wp2_with fail
          go_roundw
          case rel => exact ⟨k + 1, v, rfl, by omega, by go_num, HB.out, by rw [HE.out]; exact HO.out, by rw [HE.out]; omega⟩
          case measure => simp [intOf]; omega
      · have HE : Hid (offs (ss.take (k + 1)) b = offs (ss.take k) b) := by
          have := HT.out; rw [if_neg (by unfold beg; simp; intro h; omega), List.append_nil] at this; exact this
        clear HT
        go_wp2_with fail
        go_roundw
        case rel => exact ⟨k + 1, v, rfl, by omega, by go_num, HB.out, by rw [HE.out]; exact HO.out, by rw [HE.out]; omega⟩
        case measure => simp [intOf]; omega
    · obtain rfl : k = n := by omega
      have hk1 : ¬ ((k : Int) < k) := by omega
      rw [List.take_of_length_le (by rw [← Hn.out]; exact Nat.le_refl _)] at HO
      obtain ⟨A, c, rfl, hA⟩ := strs_own HO.out
      have HA := Go.Lib.hid hA
      clear hA
      go_wp2_with fail
      go_returns
      exact ⟨A, c, rfl, HA.out, HB.out⟩
end Go.Proofs.YtmkefndmiagoaaaDoor
