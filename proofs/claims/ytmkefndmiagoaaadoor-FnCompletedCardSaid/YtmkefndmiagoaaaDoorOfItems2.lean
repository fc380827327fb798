/- impl.items. -/
import Derived.Test.YtmkefndmiagoaaaDoorOfItems
namespace Go.Proofs.YtmkefndmiagoaaaDoor
open Go.RowKit
set_option linter.unusedVariables false
set_option linter.unusedSimpArgs false

theorem flatW_append (a b : List (ByteArray × List ByteArray)) : flatW (a ++ b) = flatW a ++ flatW b := by simp [flatW]
theorem flatW_one (t : ByteArray × List ByteArray) : flatW [t] = (t.1, 1 + (t.2.length : Int)) :: t.2.map fun k => (k, (1 : Int)) := by simp [flatW]
theorem flatW_split (T : List (ByteArray × List ByteArray)) (j : Nat) (t : ByteArray × List ByteArray) (h : T[j]? = some t) :
    flatW T = flatW (T.take j) ++ ((t.1, 1 + (t.2.length : Int)) :: t.2.map fun k => (k, (1 : Int))) ++ flatW (T.drop (j + 1)) := by
  have hj := (List.getElem?_eq_some_iff.1 h).1
  have e : T = T.take j ++ [t] ++ T.drop (j + 1) := by
    rw [← (List.getElem?_eq_some_iff.1 h).2, List.append_assoc, List.singleton_append, ← List.drop_eq_getElem_cons hj, List.take_append_drop]
  conv => lhs; rw [e]
  rw [flatW_append, flatW_append, flatW_one]
theorem flatW_take (T : List (ByteArray × List ByteArray)) (j : Nat) (t : ByteArray × List ByteArray) (h : T[j]? = some t) :
    (flatW (T.take (j + 1))).length = (flatW (T.take j)).length + 1 + t.2.length := by
  rw [List.take_add_one, h, flatW_append]
  show (flatW (T.take j) ++ flatW [t]).length = _
  rw [flatW_one, List.length_append, List.length_cons, List.length_map]
  omega
theorem flatW_le (T : List (ByteArray × List ByteArray)) (j : Nat) : (flatW (T.take j)).length ≤ (flatW T).length := by
  have : flatW T = flatW (T.take j) ++ flatW (T.drop j) := by rw [← flatW_append, List.take_append_drop]
  rw [this, List.length_append]; omega
theorem flatW_ge (T : List (ByteArray × List ByteArray)) : T.length ≤ (flatW T).length := by
  induction T with
  | nil => exact Nat.le_refl _
  | cons t T ih =>
    show _ ≤ (flatW ([t] ++ T)).length
    rw [flatW_append, flatW_one, List.length_append, List.length_cons, List.length_cons]
    omega
theorem flatW_leaves (ks : List ByteArray) : flatW (ks.map fun k => (k, [])) = ks.map fun k => (k, (1 : Int)) := by
  induction ks with
  | nil => rfl
  | cons k ks ih =>
    rw [List.map_cons, List.map_cons, ← ih]
    show flatW ([(k, [])] ++ _) = _
    rw [flatW_append, flatW_one]
    rfl

def ItemsPost (T : List (ByteArray × List ByteArray)) (w : World) (e : Ending) (w' : World) : Prop :=
  ∃ A c, e = .returned (.tuple #[.slice A T.length c, .bool true]) ∧ KidsD w' (fun q => w.heap.size ≤ q) A T ∧ Below w.heap.size w w'
def Inner (ks : List ByteArray) : Prop := ∀ (w : World) (A : Option Addr) (c : Nat), WordsAt w A (ks.map fun k => (k, (1 : Int))) → ks.length ≤ c →
  Calls Tryd.prog 18 #[.slice A ks.length c] w (ItemsPost (ks.map fun k => (k, [])) w)

theorem sizeW (w : World) : (sizeOf (Tryd.prog.elem 25)).run Tryd.prog w = .ok 2 w := by kernel_rfl
def subA (A : Option Addr) (cap i : Nat) : Option Addr := if cap = i then A else A.map fun a => a.add (i * 2)
theorem sub_run (A : Option Addr) (n cap i j : Nat) (h : i ≤ j) (hj : j ≤ cap) : ∀ w, (Instr.slice 25 (.slice A n cap) (some (.int .i64 (i : Nat))) (some (.int .i64 (j : Nat))) none).run Tryd.prog w = .ok (.slice (subA A cap i) (j - i) (cap - i)) w := fun w => by
  have he : Tryd.prog.elem 25 = 41 := by simp [Program.elem, Tryd.underlying25]
  rw [run_slice_lh w 25 A n cap (by rw [he]; exact Tryd.underlying25) .i64 .i64 i j (by omega) (by omega) (by omega), sizeW]
  simp only [Result.andThen, sliced, Int.toNat_natCast, subA]
theorem WordsAt.sub {w : World} {A : Option Addr} {ws us vs xs : List (ByteArray × Int)} (h : WordsAt w A ws) (e : ws = us ++ vs ++ xs) (cap : Nat) (hc : ws.length ≤ cap) : WordsAt w (subA A cap us.length) vs := by
  by_cases hv : vs = []
  · exact .inl hv
  have hvl : 0 < vs.length := List.length_pos_iff.2 hv
  have hwl : ws.length = us.length + vs.length + xs.length := by rw [e]; simp only [List.length_append]
  rcases h with h | ⟨b, o, rfl, hb, hcl⟩
  · rw [h] at hwl; simp at hwl; omega
  · refine .inr ⟨b, o + us.length * 2, ?_, hb, fun j x hx => ?_⟩
    · unfold subA
      rw [if_neg (by omega)]
      simp only [Option.map_some, Addr.add]
      by_cases h0 : us.length * 2 = 0
      · rw [if_pos h0, h0]; rfl
      · rw [if_neg h0]
    · have hj := (List.getElem?_eq_some_iff.1 hx).1
      have := hcl (us.length + j) x (by rw [e, List.append_assoc, List.getElem?_append_right (by omega), List.getElem?_append_left (by omega)]; rw [show us.length + j - us.length = j by omega]; exact hx)
      rw [show o + us.length * 2 + j * 2 = o + (us.length + j) * 2 by omega]
      exact this

/-- The completers of the first words, in a row of one's own. -/
def HeldN (w : World) (base : Nat) (v : Value) (T : List (ByteArray × List ByteArray)) : Prop :=
  ∃ xs, w.ownsRow base 69 1 v T.length xs ∧ ∀ (j : Nat) (t : ByteArray × List ByteArray), T[j]? = some t → ∃ q, xs[j]? = some (pcV q) ∧ NodeD w (fun k => base ≤ k ∧ v.ownBlock ≠ some k) q t
theorem HeldN.below {w w' : World} {base : Nat} {v : Value} {T : List (ByteArray × List ByteArray)} (h : HeldN w base v T) (hb : Below w.heap.size w w') : HeldN w' base v T := by
  obtain ⟨xs, h1, h2⟩ := h
  refine ⟨xs, row_below h1 hb, fun j t ht => ?_⟩
  obtain ⟨q, h3, h4⟩ := h2 j t ht
  exact ⟨q, h3, h4.stand (.of hb _) fun _ _ h => h⟩
theorem HeldN.kids {w : World} {base : Nat} {v : Value} {T : List (ByteArray × List ByteArray)} (h : HeldN w base v T) : ∃ A c, v = .slice A T.length c ∧ KidsD w (fun q => base ≤ q) A T := by
  obtain ⟨xs, h1, h2⟩ := h
  rcases h1.2 with ⟨rfl, h0⟩ | ⟨g, cap, cur, rfl, hg, hh, hc, _, hcs, htk⟩
  · rw [h0]
    exact ⟨none, 0, rfl, .inl (List.length_eq_zero_iff.1 h0)⟩
  · refine ⟨_, cap, rfl, .inr ⟨g, 0, rfl, hg, (Array.getElem?_eq_some_iff.1 hh).1, fun j t ht => ?_⟩⟩
    have hj := (List.getElem?_eq_some_iff.1 ht).1
    obtain ⟨q, h3, h4⟩ := h2 j t ht
    refine ⟨q, ?_, h4.stand (.of (Below.refl _ _) _) fun _ _ h => h.1⟩
    rw [Nat.zero_add, World.cell?, hh]
    have := congrArg (·[j]?) htk
    simp only [h3] at this
    rw [List.getElem?_take_of_lt (by omega)] at this
    simpa using this
/-- One more completer. -/
theorem HeldN.push {w1 w2 : World} {base : Nat} {v v2 : Value} {T : List (ByteArray × List ByteArray)} {t : ByteArray × List ByteArray} {q : Nat} {o : Obj} {xs : List Value} (hxl : xs.length = T.length) (h2 : ∀ (j : Nat) (t : ByteArray × List ByteArray), T[j]? = some t → ∃ q, xs[j]? = some (pcV q) ∧ NodeD w1 (fun k => base ≤ k ∧ v.ownBlock ≠ some k) q t)
    (hq : NodeD w1 (fun k => base ≤ k ∧ v.ownBlock ≠ some k) q t) (hv : v2.ownBlock = v.ownBlock ∨ v2.ownBlock = some (w1.heap.size + 1)) (hown : w2.ownsRow base 69 1 v2 (T.length + 1) (xs ++ [pcV q])) (hg : (w1.alloc o).grownBy w2 v.ownBlock) : HeldN w2 base v2 (T ++ [t]) := by
  have hst : Stand w1 w2 (fun k => base ≤ k ∧ v.ownBlock ≠ some k) := ⟨by have := hg.size; simp at this; omega, fun k hk hd => (hg.block k (by simp; omega) (fun e => hd.2 e.symm)).trans (Below.heap_alloc _ _ _ hk)⟩
  have hE : ∀ q, q < w1.heap.size → (base ≤ q ∧ v.ownBlock ≠ some q) → (base ≤ q ∧ v2.ownBlock ≠ some q) := fun q hq hd => ⟨hd.1, by
    rcases hv with hv | hv <;> rw [hv]
    · exact hd.2
    · intro e; injection e with e; omega⟩
  refine ⟨_, by rw [List.length_append]; exact hown, fun j u hu => ?_⟩
  by_cases e : j < T.length
  · rw [List.getElem?_append_left e] at hu
    obtain ⟨q', h3, h4⟩ := h2 j u hu
    exact ⟨q', by rw [List.getElem?_append_left (by omega)]; exact h3, h4.stand hst hE⟩
  · have hj : j = T.length := by have := (List.getElem?_eq_some_iff.1 hu).1; simp at this; omega
    subst hj
    rw [List.getElem?_append_right (Nat.le_refl _), Nat.sub_self] at hu
    simp at hu
    subst hu
    exact ⟨q, by rw [List.getElem?_append_right (by omega), hxl, Nat.sub_self]; rfl, hq.stand hst hE⟩

set_option maxRecDepth 100000 in
set_option maxHeartbeats 2000000 in
theorem items_of (T : List (ByteArray × List ByteArray)) (A : Option Addr) (c : Nat) (w : World) (hw : WordsAt w A (flatW T)) (hc : (flatW T).length ≤ c) (hl : (flatW T).length ≤ 100) (hs : ∀ t ∈ T, IsSmall t.1 ∧ t.1.size ≤ 100) (hin : ∀ t ∈ T, Inner t.2) :
    Calls Tryd.prog 18 #[.slice A (flatW T).length c] w (ItemsPost T w) := by
  obtain ⟨ib, hib, hz0, hz1, hz2⟩ := info_parts (show (Tryd.prog.info? 69).map (fun i => (i.zero, i.size, i.bytes)) = some (some .nilIface, 1, 16) by kernel_rfl)
  obtain ⟨n, hn⟩ : ∃ n, n = (flatW T).length := ⟨_, rfl⟩
  have HN := Go.Lib.hid hn
  have HW := Go.Lib.hid hw
  have HS := Go.Lib.hid hs
  have HIN := Go.Lib.hid hin
  rw [← hn] at hc hl ⊢
  clear hn hw hs hin
  go_enter Tryd.func18, Tryd.ntmps18
  go_wp2_with fail
  go_loopw [2, 4] (fun vv i wr => ∃ (j : Nat) (v : Value), v = vv ∧ j ≤ T.length ∧ i = .int .i64 ((flatW (T.take j)).length : Nat) ∧ Hid (HeldN wr w.heap.size v (T.take j) ∧ Below w.heap.size w wr)) (fun _ i _ => n - (intOf i).toNat)
  case atStart => exact ⟨0, _, rfl, Nat.zero_le _, rfl, ⟨[], World.ownsRow_nil _ _ _ _, fun j t ht => by simp at ht⟩, Below.refl _ _⟩
  case round =>
    obtain ⟨j, v, rfl, hj, rfl, HX⟩ := hrel
    by_cases hlt : j < T.length
    · obtain ⟨hheld, hbel⟩ := HX.out
      obtain ⟨t, ht⟩ : ∃ t, T[j]? = some t := ⟨_, List.getElem?_eq_getElem hlt⟩
      have hsp := flatW_split T j t ht
      have hpn := flatW_take T j t ht
      have hle := flatW_le T (j + 1)
      have htm := List.mem_of_getElem? ht
      have HHELD := Go.Lib.hid hheld
      have HBEL := Go.Lib.hid hbel
      have HTT := Go.Lib.hid ht
      obtain ⟨us, hus⟩ : ∃ us, us = flatW (T.take j) := ⟨_, rfl⟩
      rw [← hus] at hsp hpn ⊢
      have HUS := Go.Lib.hid hus
      have hww := HW.out.below hbel
      have HSUB : Hid (WordsAt wr (subA A c (us.length + 1)) (t.2.map fun k => (k, (1 : Int)))) := by
        have := hww.sub (us := us ++ [(t.1, 1 + (t.2.length : Int))]) (vs := t.2.map fun k => (k, (1 : Int))) (xs := flatW (T.drop (j + 1))) (by rw [hsp]; simp) c (by rw [← HN.out]; exact hc)
        rwa [List.length_append] at this
      rcases hww with e0 | ⟨b, o, rfl, hb, hcl⟩
      · rw [e0] at hsp; simp at hsp
      obtain ⟨hc0, hc1⟩ := hcl us.length (t.1, 1 + (t.2.length : Int)) (by rw [hsp, List.append_assoc, List.getElem?_append_right (Nat.le_refl _), Nat.sub_self]; rfl)
      have HINT := Go.Lib.hid (HIN.out t htm)
      have HST := Go.Lib.hid (HS.out t htm)
      obtain ⟨x, ks⟩ := t
      dsimp only at hc0 hc1 hpn HSUB HINT HST
      have HPN : Hid ((flatW (T.take (j + 1))).length = us.length + 1 + ks.length) := hpn
      rw [hpn, ← HN.out] at hle
      obtain ⟨m, hm⟩ : ∃ m, m = ks.length := ⟨_, rfl⟩
      have HM := Go.Lib.hid hm
      rw [← hm] at hc1 hle
      have hsr := sub_run (some ⟨b, o, none⟩) n c (us.length + 1) (us.length + 1 + m) (by omega) (by omega)
      rw [show us.length + 1 + m - (us.length + 1) = m by omega] at hsr
      clear hcl hsp hpn htm hus ht hheld hbel hm HX
      have HINT2 : Hid (∀ (W : World) (A : Option Addr) (c : Nat), WordsAt W A (ks.map fun k => (k, (1 : Int))) → m ≤ c → Calls Tryd.prog 18 #[.slice A m c] W fun e w' => ∃ A2 c2, e = .returned (.tuple #[.slice A2 m c2, .bool true]) ∧ LeavesD w' (fun q => W.heap.size ≤ q) A2 ks ∧ Below W.heap.size W w') := fun W A c h1 h2 => by
        have := HINT.out W A c h1 (by rw [← HM.out]; exact h2)
        rw [← HM.out] at this
        refine this.mono ?_
        rintro e w' ⟨A2, c2, rfl, h3, h4⟩
        refine ⟨A2, c2, ?_, h3.leaves, h4⟩
        rw [List.length_map, ← HM.out]
      have HUL : Hid (us.length = (flatW (T.take j)).length) := congrArg List.length HUS.out
      generalize us.length = z at hc0 hc1 HSUB HPN hle hsr HUL
      have hsr' : ∀ w, (Instr.slice 25 (.slice (some ⟨b, o, none⟩) n c) (some (.int .i64 ((z : Int) + 1))) (some (.int .i64 ((z : Int) + (1 + (m : Int))))) none).run Tryd.prog w = .ok (.slice (subA (some ⟨b, o, none⟩) c (z + 1)) m (c - (z + 1))) w := fun w => by
        have := hsr w
        rwa [show ((z + 1 : Nat) : Int) = (z : Int) + 1 by omega, show ((z + 1 + m : Nat) : Int) = (z : Int) + (1 + (m : Int)) by omega] at this
      generalize subA (some ⟨b, o, none⟩) c (z + 1) = SA at hsr' HSUB
      have hcm : m ≤ c - (z + 1) := by omega
      generalize c - (z + 1) = SC at hsr' hcm
      clear hsr HINT HUS
      go_wp2_with fail
      refine (HINT2.out wr SA SC HSUB.out hcm).mono ?_
      rintro e w2 ⟨A2, c2, rfl, hlv, b2⟩
      have HLV := Go.Lib.hid hlv
      have HB2 := Go.Lib.hid b2
      have d0 := (b2.cell (p := ⟨b, o + z * 2, none⟩) (lt_of_cell hc0)).trans hc0
      clear hlv b2 hc0 hc1 HINT2 hsr'
      go_wp2_with fail
      refine (pcItem_any x A2 m c2 w2 HST.out.1 HST.out.2).mono ?_
      rintro e w3 ⟨p, rfl, hnd, hp3, b3⟩
      have HB3 := Go.Lib.hid b3
      have HND := Go.Lib.hid hnd
      have HP3 := Go.Lib.hid hp3
      have HHELD3 := Go.Lib.hid ((HHELD.out.below HB2.out).below b3)
      obtain ⟨xs, hown, hxs⟩ := HHELD3.out
      have HXS := Go.Lib.hid hxs
      have HOWN := Go.Lib.hid hown
      have hvlt : ∀ q, v.ownBlock = some q → q < wr.heap.size := fun q hq => by
        obtain ⟨xs', h1, _⟩ := HHELD.out
        exact (h1.lt q hq).2
      have HVLT := Go.Lib.hid hvlt
      have hz3 : w.heap.size ≤ w3.heap.size := by have h1 := HBEL.out.size; have h2 := HB2.out.size; have h3 := b3.size; omega
      have hTl : (T.take j).length = j := by rw [List.length_take]; omega
      rw [hTl] at hown
      have hnews := news_any w3 (pcV p) 69
      have HOWN' := Go.Lib.hid hown
      have HTL := Go.Lib.hid hTl
      have hlo := hown.lt
      have hj100 : j ≤ 100 := by
        have h1 : j ≤ z := by
          have h2 := flatW_ge (T.take j)
          rw [hTl, ← HUL.out] at h2
          exact h2
        omega
      clear hnd hp3 b3 hxs hown hvlt d0 hTl
      go_wp2_with (at_builtin; refine wpList_append_own_at _ rfl _ _ 42 rfl w.heap.size 69 ib .nilIface 1 16 Tryd.underlying42 hib hz0 hz1 hz2 rfl (by decide) v j xs rfl (HOWN'.out.alloc _) ⟨w3.heap.size, 0, none⟩ 1 1 [pcV p] rfl rfl hnews (by simp [Value.oneCell']) ?c1 ?c2 ?c3 ?_)
      case c1 => unfold maxLen; omega
      case c2 => omega
      case c3 => simp; omega
      intro v2 w4 hown4 hgrow4 _ hv2
      have HN4 : Hid (HeldN w4 w.heap.size v2 (T.take (j + 1))) := by
        have e : T.take (j + 1) = T.take j ++ [(x, ks)] := by rw [List.take_add_one, HTT.out]; rfl
        rw [Hid, e]
        have hq : NodeD w3 (fun k => w.heap.size ≤ k ∧ v.ownBlock ≠ some k) p (x, ks) := by
          have hE : ∀ q, wr.heap.size ≤ q → w.heap.size ≤ q ∧ v.ownBlock ≠ some q := fun q hq => ⟨by have := HBEL.out.size; omega, fun e => by have := HVLT.out q e; omega⟩
          obtain ⟨g, c, h1, h2, h3, h4, h5, h6, dg, dp⟩ := HND.out
          have h22 := HB2.out.size
          exact ⟨HND.out.stand (.of (Below.refl _ _) _) fun q _ hd => hE q (by omega), h5, hE p (by omega), A2, c2, by rw [← HM.out]; exact HP3.out, HLV.out.stand (.of HB3.out _) fun q _ hd => hE q hd⟩
        refine HeldN.push (by rw [HTL.out]; have := HOWN'.out.1; omega) HXS.out hq hv2 (by rw [HTL.out]; exact hown4) hgrow4
      have HB4 : Hid (Below w.heap.size w w4) := (((HBEL.out.trans (HB2.out.mono HBEL.out.size)).trans (HB3.out.mono (by have h1 := HBEL.out.size; have h2 := HB2.out.size; omega))).alloc hz3 _).grown hgrow4 (by simp; omega) (fun k hk => (hlo k hk).1)
      clear hown4 hgrow4 hv2 hlo hnews
      go_wp2_with fail
      go_roundw
      case rel => exact ⟨j + 1, v2, rfl, by omega, congrArg (Value.int .i64) (by rw [HPN.out, ← HM.out]; omega), HN4.out, HB4.out⟩
      case measure => simp [intOf]; omega
    · obtain rfl : j = T.length := by omega
      rw [List.take_length] at HX ⊢
      have HX2 := Go.Lib.hid HX.out
      obtain ⟨A3, c3, rfl, hkd⟩ := HX.out.1.kids
      have HKD := Go.Lib.hid hkd
      have HBF := Go.Lib.hid HX.out.2
      rw [← HN.out]
      clear hkd HX HX2
      go_wp2_with fail
      go_returns
      exact ⟨A3, c3, rfl, HKD.out, HBF.out⟩

theorem inner_nil : Inner [] := fun w A c hw hc => by
  have := items_of [] A c w (.inl rfl) (Nat.zero_le _) (Nat.zero_le _) (fun t ht => by simp at ht) (fun t ht => by simp at ht)
  exact this
theorem inner_any (ks : List ByteArray) (hl : ks.length ≤ 8) (hs : ∀ k ∈ ks, IsSmall k ∧ k.size ≤ 100) : Inner ks := fun w A c hw hc => by
  have e := flatW_leaves ks
  have h := items_of (ks.map fun k => (k, [])) A c w (by rw [e]; exact hw) (by rw [e, List.length_map]; exact hc) (by rw [e, List.length_map]; omega) (fun t ht => by
    obtain ⟨k, hk, rfl⟩ := List.mem_map.1 ht
    exact hs k hk) (fun t ht => by
    obtain ⟨k, hk, rfl⟩ := List.mem_map.1 ht
    exact inner_nil)
  rw [e, List.length_map] at h
  exact h
theorem items_any (T : List (ByteArray × List ByteArray)) (A : Option Addr) (c : Nat) (w : World) (hw : WordsAt w A (flatW T)) (hc : (flatW T).length ≤ c) (hl : (flatW T).length ≤ 100) (hs : ∀ t ∈ T, IsSmall t.1 ∧ t.1.size ≤ 100) (hk : ∀ t ∈ T, t.2.length ≤ 8 ∧ ∀ k ∈ t.2, IsSmall k ∧ k.size ≤ 100) :
    Calls Tryd.prog 18 #[.slice A (flatW T).length c] w (ItemsPost T w) :=
  items_of T A c w hw hc hl hs fun t ht => inner_any t.2 (hk t ht).1 (hk t ht).2
end Go.Proofs.YtmkefndmiagoaaaDoor
