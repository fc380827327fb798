/- The contract of impl.Aggregated. -/
import Derived.Test.YtmkefndmiagoaaaDoorAggregate
import Derived.Test.YtmkefndmiagoaaaDoorSpecColourless
import Derived.Maps.AppendAt
import Derived.Deep.AppendLies
namespace Go.Proofs.YtmkefndmiagoaaaDoor
open Go.RowKit
set_option linter.unusedVariables false
set_option linter.unusedSimpArgs false

/-- The k-th text's code points. -/
def zsOf (ss : List ByteArray) (k : Nat) : List Int := runes (txt ss k)

/-- The rows of the first k texts, each in a block of its own that is not the row's own. -/
def Held (w : World) (v : Value) (ss : List ByteArray) (xs : List Value) (k : Nat) : Prop :=
  ∀ j, j < k → ∃ g c, xs[j]? = some (.slice (some ⟨g, 0, none⟩) (zsOf ss j).length c) ∧ (zsOf ss j).length ≤ c ∧ g < w.heap.size ∧ v.ownBlock ≠ some g ∧ RuneRow w (some ⟨g, 0, none⟩) (zsOf ss j)

theorem own_lt {w : World} {base : Nat} {e : TypeId} {size : Nat} {v : Value} {n : Nat} {xs : List Value} (h : w.ownsRow base e size v n xs) : v.ownBlock ≠ some w.heap.size := by
  rcases h.2 with ⟨rfl, _⟩ | ⟨g, cap, cur, rfl, _, hg, _⟩
  · simp [Value.ownBlock]
  · intro e
    simp [Value.ownBlock] at e
    rw [e] at hg
    simp at hg

theorem RuneRow.grown {w w' : World} {b : Nat} {zs : List Int} {row : Option Nat} (h : RuneRow w (some ⟨b, 0, none⟩) zs) (hg : w.grownBy w' row) (hne : row ≠ some b) : RuneRow w' (some ⟨b, 0, none⟩) zs := fun j hj => by
  obtain ⟨_, _, e, hc⟩ := h j hj
  cases e
  exact ⟨b, 0, rfl, hg.cell hc (Ne.symm hne)⟩

theorem Held.push {w w1 w2 : World} {v v2 : Value} {ss : List ByteArray} {xs : List Value} {k g c : Nat} (h : Held w v ss xs k) (hb : Below w.heap.size w w1) (hg : w1.grownBy w2 v.ownBlock)
    (hv : v2.ownBlock = v.ownBlock ∨ v2.ownBlock = some w1.heap.size) (hx : xs.length = k) (hg1 : g < w1.heap.size) (hg0 : v.ownBlock ≠ some g) (hc : (zsOf ss k).length ≤ c) (hr : RuneRow w1 (some ⟨g, 0, none⟩) (zsOf ss k)) :
    Held w2 v2 ss (xs ++ [.slice (some ⟨g, 0, none⟩) (zsOf ss k).length c]) (k + 1) := fun j hj => by
  have hs := hg.size
  have hs1 := hb.size
  by_cases e : j < k
  · obtain ⟨gj, cj, h1, h2, h3, h4, h5⟩ := h j e
    refine ⟨gj, cj, by rw [List.getElem?_append_left (by omega)]; exact h1, h2, by omega, ?_, (h5.below hb).grown hg h4⟩
    rcases hv with hv | hv <;> rw [hv]
    · exact h4
    · intro e; cases e; omega
  · obtain rfl : j = k := by omega
    refine ⟨g, c, by rw [List.getElem?_append_right (by omega), hx]; simp, hc, by omega, ?_, hr.grown hg hg0⟩
    rcases hv with hv | hv <;> rw [hv]
    · exact hg0
    · intro e; cases e; omega

theorem Held.cands {w : World} {base n cap : Nat} {v : Value} {ss : List ByteArray} {xs : List Value} (h : Held w v ss xs n) (ho : w.ownsRow base 51 1 v n xs) (hn : 0 < n) :
    ∃ g cap, v = .slice (some ⟨g, 0, none⟩) n cap ∧ base ≤ g ∧ g < w.heap.size ∧ n ≤ cap ∧ Cands w g n (zsOf ss) 0 := by
  obtain ⟨hl, ho⟩ := ho
  rcases ho with ⟨_, e⟩ | ⟨g, cap, cur, rfl, hg, hh, hn1, hcm, hcs, htk⟩
  · omega
  have hgl : g < w.heap.size := by
    by_cases hl : g < w.heap.size
    · exact hl
    · have : w.heap[g]? = none := by simp; omega
      rw [this] at hh; cases hh
  refine ⟨g, cap, rfl, hg, hgl, hn1, fun j _ hj => ?_⟩
  obtain ⟨gj, cj, h1, h2, h3, h4, h5⟩ := h j hj
  refine ⟨gj, cj, ?_, ?_, h2, h3, ?_, h5⟩
  · rw [← htk, List.getElem?_take_of_lt (by omega)] at h1
    simpa [World.cell?, hh] using h1
  · simp [World.frozen?, hh]
  · rintro rfl; simp [Value.ownBlock] at h4

def ImplAgg (ss : List ByteArray) (w : World) (e : Ending) (w' : World) : Prop :=
  ∃ S, IsCommon (zsOf ss) ss.length S ∧ e = .returned (.tuple #[.string (runesBytes ((zsOf ss 0).take S)), .int .i64 (S : Nat)]) ∧ Below w.heap.size w w'

set_option maxRecDepth 100000 in
theorem impl_agg (a : Option Addr) (cap : Nat) (ss : List ByteArray) (w : World) (h : IsStrs w a ss) (h0 : 0 < ss.length) (h20 : ss.length ≤ 20) (hs : ∀ s ∈ ss, s.size ≤ 300) :
    Calls Tryd.prog 13 #[.slice a ss.length cap] w (ImplAgg ss w) := by
  have hk := fun w s (h : s.size ≤ 300) => run_runes (P := Tryd.prog) w 9 51 21 s Tryd.underlying9 Tryd.underlying51 Tryd.underlying21 (by omega)
  obtain ⟨n, hn⟩ : ∃ n, n = ss.length := ⟨_, rfl⟩
  have Hn := Go.Lib.hid hn
  have HH := Go.Lib.hid h
  have HS := Go.Lib.hid hs
  unfold ImplAgg
  rw [← hn] at h0 h20 ⊢
  have hn0 : ((n : Int) == 0) = false := by simp; omega
  have HK := Go.Lib.hid hk
  clear hn h hs hk
  obtain ⟨ib, hib, hz0, hz1, hz2⟩ := info_parts (show (Tryd.prog.info? 51).map (fun i => (i.zero, i.size, i.bytes)) = some (some (.slice none 0 0), 1, 24) by kernel_rfl)
  go_enter Tryd.func13, Tryd.ntmps13
  go_wp2_with fail
  go_loopw [4, 13] (fun v i wr => ∃ (u : Value) (k : Nat) (xs : List Value), u = v ∧ k ≤ n ∧ i = .int .i64 k ∧ wr.ownsRow w.heap.size 51 1 u k xs ∧ Below w.heap.size w wr ∧ Hid (Held wr u ss xs k)) (fun _ i _ => n - (intOf i).toNat)
  case atStart => exact ⟨_, 0, [], rfl, Nat.zero_le _, rfl, World.ownsRow_nil _ _ _ _, Below.refl _ _, fun j hj => by omega⟩
  case round =>
    obtain ⟨u, k, xs, rfl, hk, rfl, hown, hb, HD⟩ := hrel
    by_cases hlt : k < n
    · rcases HH.out with e | ⟨b, off, rfl, hbl, hc⟩
      · have := Hn.out; rw [e] at this; simp at this; omega
      have hck : wr.cell? ⟨b, off + k, none⟩ = some (.string (txt ss k)) := (hb.cell (p := ⟨b, off + k, none⟩) hbl).trans (hc k (by rw [← Hn.out]; exact hlt))
      clear hc
      have hsz := HS.out (txt ss k) (txt_mem ss k (by rw [← Hn.out]; exact hlt))
      have hcv := fun w => HK.out w (txt ss k) hsz
      obtain ⟨cc, hcc⟩ : ∃ c, c = runeCap wr 21 (txt ss k) := ⟨_, rfl⟩
      obtain ⟨nn, hnn⟩ : ∃ c, c = (runes (txt ss k)).length := ⟨_, rfl⟩
      obtain ⟨rc, hrc⟩ : ∃ c, c = runeCells (txt ss k) cc := ⟨_, rfl⟩
      have hcv1 := hcv wr
      rw [← hnn, ← hcc, ← hrc] at hcv1
      have HCC := Go.Lib.hid hcc
      have HNN := Go.Lib.hid hnn
      have HRC := Go.Lib.hid hrc
      have hxl : xs.length = k := by have := hown.1; omega
      have hol := own_lt hown
      clear hcv hcc hnn hrc
      go_wp2_with (at_builtin; refine wpList_append_own_at _ rfl _ _ 45 rfl w.heap.size 51 ib (.slice none 0 0) 1 24 Tryd.underlying45 hib hz0 hz1 hz2 rfl (by decide) u k xs rfl ((show wr.drew.ownsRow w.heap.size 51 1 u k xs from hown).alloc (.cells rc 21) |>.alloc (.cells #[.slice (some ⟨wr.heap.size, 0, none⟩) nn cc] 51)) ⟨wr.heap.size + 1, 0, none⟩ 1 1 [.slice (some ⟨wr.heap.size, 0, none⟩) nn cc] rfl rfl ?c0 (by simp [Value.oneCell']) ?c1 ?c2 ?c3 ?_)
      case c0 =>
        intro j v hj
        obtain ⟨rfl, rfl⟩ : j = 0 ∧ v = .slice (some ⟨wr.heap.size, 0, none⟩) nn cc := by
          cases j with
          | zero => simpa using hj.symm
          | succ j => simp at hj
        simp [Addr.add, go_sem]
      case c1 => unfold maxLen; omega
      case c2 => omega
      case c3 => have := hb.size; simp; omega
      intro v2 w2 hown2 hgrow2 _ hv2
      have hbb : Below wr.heap.size wr ((wr.drew.alloc (.cells rc 21)).alloc (.cells #[.slice (some ⟨wr.heap.size, 0, none⟩) nn cc] 51)) := ((Below.refl _ wr).drew.alloc (Nat.le_refl _) _).alloc (by simp) _
      have hb2 : Below w.heap.size w w2 := (hb.trans (hbb.mono hb.size)).grown hgrow2 (by have := hb.size; simp; omega) (fun j hj => (hown.lt j hj).1)
      have hrow : RuneRow ((wr.drew.alloc (.cells rc 21)).alloc (.cells #[.slice (some ⟨wr.heap.size, 0, none⟩) nn cc] 51)) (some ⟨wr.heap.size, 0, none⟩) (zsOf ss k) := RuneRow.of fun j hj => by
        have := runeCells_at (txt ss k) cc j hj
        rw [← HRC.out] at this
        simpa [go_sem, zsOf] using this
      have HD2 : Hid (Held w2 v2 ss (xs ++ [.slice (some ⟨wr.heap.size, 0, none⟩) (zsOf ss k).length cc]) (k + 1)) := HD.out.push hbb hgrow2 (by simpa using hv2) hxl (by simp; omega) hol (by have := runeCap_ge wr 21 (txt ss k); rw [← HCC.out] at this; exact this) hrow
      have e : (.slice (some ⟨wr.heap.size, 0, none⟩) (zsOf ss k).length cc : Value) = .slice (some ⟨wr.heap.size, 0, none⟩) nn cc := by rw [HNN.out]; rfl
      rw [e] at HD2
      clear hgrow2 hrow hbb hv2 e
      go_wp2_with fail
      go_roundw
      case rel => exact ⟨v2, k + 1, _, rfl, hlt, by go_num, hown2, hb2, HD2⟩
      case measure => simp [intOf]; omega
    · obtain rfl : k = n := by omega
      obtain ⟨g, cp, rfl, hgb, hgl, hcp, hcands⟩ := HD.out.cands (cap := 0) hown h0
      have HCA := Go.Lib.hid hcands
      clear hcands
      go_wp2_with fail
      refine (agg_any wr g cp k w.heap.size (zsOf ss) HCA.out h0 h20 hcp (fun j hj => ?_) hgb hgl).mono ?_
      · have h1 := HS.out (txt ss j) (txt_mem ss j (by rw [← Hn.out]; exact hj))
        have h2 := runes_length (txt ss j)
        unfold zsOf; omega
      rintro e w1 ⟨S, B, hS, hb1, hh⟩
      have HSS := Go.Lib.hid hS
      clear hS
      have hbw : Below w.heap.size w w1 := hb.trans hb1
      rcases hh with ⟨rfl, rfl⟩ | ⟨hS0, rfl, hO⟩
      · have hcv := conv_own w1 0 (.slice none 0 0) [] (World.ownsRow_nil _ _ _ _)
        go_wp2_with fail
        go_returns
        exact ⟨0, HSS.out, by first | rfl | simp, hbw⟩
      · have hS1 : S ≤ (zsOf ss 0).length := HSS.out.1
        have hcv := conv_runes w1 B S ((zsOf ss 0).take S) (fun j hj => hO.cell j hj)
        have e : ((zsOf ss 0).take S).length = S := by simp; omega
        rw [e] at hcv
        clear e
        obtain ⟨tt, htt⟩ : ∃ t, t = (zsOf ss 0).take S := ⟨_, rfl⟩
        rw [← htt] at hcv
        have HTT := Go.Lib.hid htt
        clear htt hO
        go_wp2_with fail
        go_returns
        exact ⟨S, HSS.out, by first | (rw [HTT.out]; done) | (rw [HTT.out]; rfl), hbw⟩
end Go.Proofs.YtmkefndmiagoaaaDoor
