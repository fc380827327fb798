/- spec.Tree. -/
import Derived.Test.YtmkefndmiagoaaaDoorOfItems2
namespace Go.Proofs.YtmkefndmiagoaaaDoor
open Go.RowKit
set_option linter.unusedVariables false
set_option linter.unusedSimpArgs false

def wCells (x : ByteArray × Int) : List Value := [.string x.1, .int .i64 x.2]
def flatV (ws : List (ByteArray × Int)) : List Value := ws.flatMap wCells
theorem flatV_snoc (ws : List (ByteArray × Int)) (x : ByteArray × Int) : flatV (ws ++ [x]) = flatV ws ++ wCells x := by simp [flatV]
theorem flatV_len : ∀ ws : List (ByteArray × Int), (flatV ws).length = ws.length * 2
  | [] => rfl
  | x :: ws => by
    have : flatV (x :: ws) = wCells x ++ flatV ws := rfl
    rw [this, List.length_append, flatV_len ws]; simp [wCells]; omega
theorem flatV_at : ∀ (ws : List (ByteArray × Int)) (j : Nat) (x : ByteArray × Int), ws[j]? = some x → (flatV ws)[j * 2]? = some (.string x.1) ∧ (flatV ws)[j * 2 + 1]? = some (.int .i64 x.2)
  | [], j, x, h => by simp at h
  | y :: ws, 0, x, h => by
    obtain rfl : y = x := by simpa using h
    exact ⟨rfl, rfl⟩
  | y :: ws, j + 1, x, h => by
    obtain ⟨h1, h2⟩ := flatV_at ws j x (by simpa using h)
    have e : ∀ i, (flatV (y :: ws))[(j + 1) * 2 + i]? = (flatV ws)[j * 2 + i]? := fun i => by
      have : flatV (y :: ws) = wCells y ++ flatV ws := rfl
      rw [this, List.getElem?_append_right (by simp [wCells]; omega)]
      congr 1
      simp [wCells]; omega
    exact ⟨(e 0).trans h1, (e 1).trans h2⟩
theorem words_own {w : World} {base n : Nat} {A : Option Addr} {cap : Nat} {ws : List (ByteArray × Int)} (h : w.ownsRow base 41 2 (.slice A n cap) n (flatV ws)) (hn : n = ws.length) : WordsAt w A ws ∧ ws.length ≤ cap := by
  rcases h.2 with ⟨h1, h0⟩ | ⟨g, cap', cur, hv, hg, hh, hc, _, hcs, htk⟩
  · cases h1
    exact ⟨.inl (List.length_eq_zero_iff.1 (by omega)), by omega⟩
  · cases hv
    refine ⟨.inr ⟨g, 0, rfl, (Array.getElem?_eq_some_iff.1 hh).1, fun j x hx => ?_⟩, by omega⟩
    have hj := (List.getElem?_eq_some_iff.1 hx).1
    obtain ⟨h1, h2⟩ := flatV_at ws j x hx
    have e : ∀ i u, i < ws.length * 2 → (flatV ws)[i]? = some u → w.cell? ⟨g, i, none⟩ = some u := fun i u hi hu => by
      rw [World.cell?, hh]
      have := congrArg (·[i]?) htk
      simp only [hu] at this
      rw [List.getElem?_take_of_lt (by omega)] at this
      simpa using this
    rw [Nat.zero_add]
    exact ⟨e _ _ (by omega) h1, e _ _ (by omega) h2⟩

/-- A word of a list, with those beneath one of them. -/
def treeT (ss : List ByteArray) (q : Nat) (ks : List ByteArray) : List (ByteArray × List ByteArray) := (List.range ss.length).map fun i => (txt ss i, if i = q then ks else [])
theorem treeT_len (ss : List ByteArray) (q : Nat) (ks : List ByteArray) : (treeT ss q ks).length = ss.length := by simp [treeT]
theorem treeT_at (ss : List ByteArray) (q : Nat) (ks : List ByteArray) (j : Nat) (hj : j < ss.length) : (treeT ss q ks)[j]? = some (txt ss j, if j = q then ks else []) := by simp [treeT, hj]
theorem treeT_step (ss : List ByteArray) (q : Nat) (ks : List ByteArray) (j : Nat) (hj : j < ss.length) :
    flatW ((treeT ss q ks).take (j + 1)) = flatW ((treeT ss q ks).take j) ++ ((txt ss j, 1 + ((if j = q then ks else []).length : Int)) :: (if j = q then ks else []).map fun k => (k, (1 : Int))) := by
  rw [List.take_add_one, treeT_at ss q ks j hj, flatW_append]
  congr 1
  exact flatW_one _
theorem news_w (w : World) (x : ByteArray × Int) (t : TypeId) : ∀ (j : Nat) (u : Value), (wCells x)[j]? = some u → (w.alloc (.cells #[.string x.1, .int .i64 x.2] t)).cell? ((⟨w.heap.size, 0, none⟩ : Addr).add j) = some u := by
  intro j u h
  unfold wCells at h
  match j, h with
  | 0, h => simp at h; subst h; simp [Addr.add]
  | 1, h => simp at h; subst h; simp [Addr.add]
  | j + 2, h => simp at h

theorem w_one (x : ByteArray × Int) : ∀ u ∈ wCells x, u.oneCell' = true := fun u hu => by
  simp [wCells] at hu
  rcases hu with rfl | rfl <;> simp [Value.oneCell']

def TreePost (T : List (ByteArray × List ByteArray)) (w : World) (e : Ending) (w' : World) : Prop :=
  ∃ A c, e = .returned (.slice A (flatW T).length c) ∧ WordsAt w' A (flatW T) ∧ (flatW T).length ≤ c ∧ Below w.heap.size w w'

set_option maxRecDepth 100000 in
set_option maxHeartbeats 4000000 in
theorem tree_any (A B : Option Addr) (c d : Nat) (ss ks : List ByteArray) (q : Nat) (w : World) (hx : IsStrs w A ss) (hy : IsStrs w B ks) (hs : ss.length ≤ 8) (hk : ks.length ≤ 8) (hq : q < 8) :
    Calls Tryd.prog 9 #[.slice A ss.length c, .int .i64 (q : Nat), .slice B ks.length d] w (TreePost (treeT ss q ks) w) := by
  obtain ⟨ib, hib, hz0, hz1, hz2⟩ := info_parts (show (Tryd.prog.info? 41).map (fun i => (i.zero, i.size, i.bytes)) = some (some (.agg #[.string ⟨#[]⟩, .int .i64 0]), 2, 24) by kernel_rfl)
  obtain ⟨n, hn⟩ : ∃ n, n = ss.length := ⟨_, rfl⟩
  obtain ⟨m, hm⟩ : ∃ m, m = ks.length := ⟨_, rfl⟩
  have HN := Go.Lib.hid hn
  have HM := Go.Lib.hid hm
  have HX := Go.Lib.hid hx
  have HY := Go.Lib.hid hy
  rw [← hn] at hs ⊢
  rw [← hm] at hk ⊢
  clear hn hm hx hy
  have hLN : ∀ j, (flatW ((treeT ss q ks).take j)).length ≤ 16 * j := fun j => by
    induction j with
    | zero => exact Nat.zero_le _
    | succ j ih =>
      by_cases hj : j < ss.length
      · rw [treeT_step ss q ks j hj, List.length_append, List.length_cons, List.length_map]
        have : (if j = q then ks else []).length ≤ 8 := by
          split
          · rw [← HM.out]; exact hk
          · exact Nat.zero_le _
        omega
      · rw [List.take_of_length_le (by rw [treeT_len]; omega)]
        rw [List.take_of_length_le (by rw [treeT_len]; omega)] at ih
        omega
  have HLN := Go.Lib.hid hLN
  clear hLN
  go_enter Tryd.func9, Tryd.ntmps9
  go_wp2_with fail
  go_loopw [7, 13] (fun vv i wr => ∃ (j : Nat) (v : Value), v = vv ∧ j ≤ n ∧ i = .int .i64 j ∧ Hid (Below w.heap.size w wr) ∧ Hid (wr.ownsRow w.heap.size 41 2 v (flatW ((treeT ss q ks).take j)).length (flatV (flatW ((treeT ss q ks).take j))))) (fun _ i _ => n - (intOf i).toNat)
  case atStart => exact ⟨0, _, rfl, Nat.zero_le _, rfl, Below.refl _ _, World.ownsRow_nil _ _ _ _⟩
  case round =>
    obtain ⟨j, v, rfl, hj, rfl, HB, HO⟩ := hrel
    by_cases hlt : j < n
    · rcases HX.out.below HB.out with e | ⟨b, o, rfl, hb, hc⟩
      · have := HN.out; rw [e] at this; simp at this; omega
      have cj := hc j (by rw [← HN.out]; exact hlt)
      have HT := Go.Lib.hid (treeT_step ss q ks j (by rw [← HN.out]; exact hlt))
      have hL := HLN.out j
      obtain ⟨x, hxx⟩ : ∃ x, x = txt ss j := ⟨_, rfl⟩
      rw [← hxx] at cj HT
      clear hc hxx
      obtain ⟨L, hLL⟩ : ∃ L, L = flatW ((treeT ss q ks).take j) := ⟨_, rfl⟩
      rw [← hLL] at HO HT hL
      clear hLL
      have hj0 : (0 : Int) ≤ j := by omega
      have hj1 : (j : Int) < n := by omega
      have hbs := HB.out.size
      by_cases hjq : j = q
      · have e1 : ((j : Int) == q) = true := by simp [hjq]
        have HT2 : Hid (flatW ((treeT ss q ks).take (j + 1)) = L ++ ((x, 1 + (ks.length : Int)) :: ks.map fun k => (k, (1 : Int)))) := by
          have := HT.out
          simp only [hjq, if_true] at this
          rw [hjq]; exact this
        clear HT hjq
        have hm1 : m ≤ 8 := hk
        go_wp2_with (at_builtin; refine wpList_append_lies _ rfl _ _ 25 rfl w.heap.size 41 ib (.agg #[.string ⟨#[]⟩, .int .i64 0]) 2 24 Tryd.underlying25 hib hz0 hz1 hz2 rfl (by decide) v L.length (flatV L) rfl ((HO.out.alloc _).alloc _) ⟨wr.heap.size + 1, 0, none⟩ 1 1 (wCells (x, 1 + (m : Int))) rfl rfl ?c0 (w_one _) (by decide) ?c1 ?c2 ?c3 _ rfl ?_)
        case c0 => intro i u h; have := news_w (wr.alloc (.cells #[.string x, .int .i64 (1 + (m : Int))] 41)) (x, 1 + (m : Int)) 41 i u h; simpa using this
        case c1 => unfold maxLen; omega
        case c2 => omega
        case c3 => simp; omega
        intro g2 cap2 w5 hown5 hgrow5 _ _
        have hlo := HO.out.lt
        have HB5 : Hid (Below w.heap.size w w5) := ((HB.out.alloc hbs _).alloc (by simp; omega) _).grown hgrow5 (by simp; omega) (fun k hk => (hlo k hk).1)
        have HO5 : Hid (w5.ownsRow w.heap.size 41 2 (.slice (some ⟨g2, 0, none⟩) (L.length + 1 + 0) cap2) (L.length + 1 + 0) (flatV (L ++ [(x, 1 + (m : Int))] ++ (ks.take 0).map fun k => (k, (1 : Int))))) := by
          have e : flatV (L ++ [(x, 1 + (m : Int))] ++ (ks.take 0).map fun k => (k, (1 : Int))) = flatV L ++ wCells (x, 1 + (m : Int)) := by simp [flatV]
          rw [Hid, e]; exact hown5
        clear hown5 hgrow5 hlo HO HB cj
        go_wp2_with fail
        obtain ⟨wo, hwo⟩ : ∃ x, x = wr := ⟨_, rfl⟩
        go_loopw [7, 10] (fun vv i wq => ∃ (r : Nat) (A : Option Addr) (cap : Nat), vv = .slice A (L.length + 1 + r) cap ∧ r ≤ m ∧ i = .int .i64 r ∧ Hid (Below w.heap.size w wq) ∧ Hid (wq.ownsRow w.heap.size 41 2 (.slice A (L.length + 1 + r) cap) (L.length + 1 + r) (flatV (L ++ [(x, 1 + (m : Int))] ++ (ks.take r).map fun k => (k, (1 : Int)))))) (fun _ i _ => m - (intOf i).toNat)
        case atStart => exact ⟨0, _, _, rfl, Nat.zero_le _, rfl, HB5.out, HO5.out⟩
        case round =>
          obtain ⟨r, A, cap, rfl, hr, rfl, HB, HO⟩ := hrel
          by_cases hrm : r < m
          · rcases HY.out.below HB.out with e | ⟨b2, o2, rfl, hb2, hc2⟩
            · have := HM.out; rw [e] at this; simp at this; omega
            have cr := hc2 r (by rw [← HM.out]; exact hrm)
            have HTK : Hid (ks.take (r + 1) = ks.take r ++ [txt ks r]) := by rw [Hid, List.take_add_one]; simp [txt, show r < ks.length by rw [← HM.out]; exact hrm]
            generalize txt ks r = y at cr HTK
            clear hc2
            have hr0 : (0 : Int) ≤ r := by omega
            have hr1 : (r : Int) < m := by omega
            have hbs := HB.out.size
            obtain ⟨Z, hZ⟩ : ∃ Z, Z = flatV (L ++ [(x, 1 + (m : Int))] ++ (ks.take r).map fun k => (k, (1 : Int))) := ⟨_, rfl⟩
            rw [← hZ] at HO
            have HZ := Go.Lib.hid hZ
            clear hZ
            go_wp2_with (at_builtin; refine wpList_append_lies _ rfl _ _ 25 rfl w.heap.size 41 ib (.agg #[.string ⟨#[]⟩, .int .i64 0]) 2 24 Tryd.underlying25 hib hz0 hz1 hz2 rfl (by decide) (.slice A (L.length + 1 + r) cap) (L.length + 1 + r) _ rfl (HO.out.alloc _) ⟨wr.heap.size, 0, none⟩ 1 1 (wCells (y, 1)) rfl rfl ?c0 (w_one _) (by decide) ?c1 ?c2 ?c3 _ rfl ?_)
            case c0 => exact news_w wr (y, 1) 41
            case c1 => unfold maxLen; omega
            case c2 => omega
            case c3 => simp; omega
            intro g3 cap3 w6 hown6 hgrow6 _ _
            have hlo := HO.out.lt
            have HB6 : Hid (Below w.heap.size w w6) := (HB.out.alloc hbs _).grown hgrow6 (by simp; omega) (fun k hk => (hlo k hk).1)
            have HO6 : Hid (w6.ownsRow w.heap.size 41 2 (.slice (some ⟨g3, 0, none⟩) (L.length + 1 + (r + 1)) cap3) (L.length + 1 + (r + 1)) (flatV (L ++ [(x, 1 + (m : Int))] ++ (ks.take (r + 1)).map fun k => (k, (1 : Int))))) := by
              have e : flatV (L ++ [(x, 1 + (m : Int))] ++ (ks.take (r + 1)).map fun k => (k, (1 : Int))) = flatV (L ++ [(x, 1 + (m : Int))] ++ (ks.take r).map fun k => (k, (1 : Int))) ++ wCells (y, 1) := by rw [HTK.out]; simp [flatV]
              rw [Hid, e, ← HZ.out]; exact hown6
            clear hown6 hgrow6 hlo
            go_wp2_with fail
            go_roundw
            case rel => exact ⟨r + 1, _, cap3, rfl, by omega, by go_num, HB6.out, HO6.out⟩
            case measure => simp [intOf]; omega
          · obtain rfl : r = m := by omega
            have hr1 : ¬ ((r : Int) < r) := by omega
            have HO7 : Hid (wr.ownsRow w.heap.size 41 2 (.slice A (L.length + 1 + r) cap) (flatW ((treeT ss q ks).take (j + 1))).length (flatV (flatW ((treeT ss q ks).take (j + 1))))) := by
              have e : flatW ((treeT ss q ks).take (j + 1)) = L ++ [(x, 1 + (r : Int))] ++ (ks.take r).map fun k => (k, (1 : Int)) := by
                rw [HT2.out, ← HM.out, List.take_of_length_le (by rw [← HM.out]; exact Nat.le_refl _)]; simp
              have e2 : (flatW ((treeT ss q ks).take (j + 1))).length = L.length + 1 + r := by rw [HT2.out]; simp [← HM.out]; omega
              rw [Hid, e2, e]; exact HO.out
            go_wp2_with fail
            go_roundw
            case rel => exact ⟨j + 1, _, rfl, by omega, by go_num, HB.out, HO7.out⟩
            case measure => simp [intOf]; omega
      · have e1 : ((j : Int) == q) = false := by simp; omega
        have HT2 : Hid (flatW ((treeT ss q ks).take (j + 1)) = L ++ [(x, (1 : Int))]) := by
          have := HT.out
          simp only [if_neg hjq] at this
          exact this
        clear HT hjq
        go_wp2_with (at_builtin; refine wpList_append_lies _ rfl _ _ 25 rfl w.heap.size 41 ib (.agg #[.string ⟨#[]⟩, .int .i64 0]) 2 24 Tryd.underlying25 hib hz0 hz1 hz2 rfl (by decide) v L.length (flatV L) rfl ((HO.out.alloc _).alloc _) ⟨wr.heap.size + 1, 0, none⟩ 1 1 (wCells (x, 1)) rfl rfl ?c0 (w_one _) (by decide) ?c1 ?c2 ?c3 _ rfl ?_)
        case c0 => intro i u h; have := news_w (wr.alloc (.cells #[.string x, .int .i64 1] 41)) (x, 1) 41 i u h; simpa using this
        case c1 => unfold maxLen; omega
        case c2 => omega
        case c3 => simp; omega
        intro g2 cap2 w5 hown5 hgrow5 _ _
        have hlo := HO.out.lt
        have HB5 : Hid (Below w.heap.size w w5) := ((HB.out.alloc hbs _).alloc (by simp; omega) _).grown hgrow5 (by simp; omega) (fun k hk => (hlo k hk).1)
        have HO5 : Hid (w5.ownsRow w.heap.size 41 2 (.slice (some ⟨g2, 0, none⟩) (L.length + 1) cap2) (flatW ((treeT ss q ks).take (j + 1))).length (flatV (flatW ((treeT ss q ks).take (j + 1))))) := by
          rw [Hid, HT2.out, flatV_snoc, List.length_append]; exact hown5
        clear hown5 hgrow5 hlo HO HB cj
        go_wp2_with fail
        go_loopw [7, 10] (fun vv i wq => vv = .slice (some ⟨g2, 0, none⟩) (L.length + 1) cap2 ∧ i = .int .i64 0 ∧ Hid (Below w.heap.size w wq) ∧ Hid (wq.ownsRow w.heap.size 41 2 (.slice (some ⟨g2, 0, none⟩) (L.length + 1) cap2) (flatW ((treeT ss q ks).take (j + 1))).length (flatV (flatW ((treeT ss q ks).take (j + 1)))))) (fun _ _ _ => 0)
        case atStart => exact ⟨rfl, rfl, HB5.out, HO5.out⟩
        case round =>
          obtain ⟨rfl, rfl, HB, HO⟩ := hrel
          go_wp2_with fail
          go_roundw
          case rel => exact ⟨j + 1, _, rfl, by omega, by go_num, HB.out, HO.out⟩
          case measure => simp [intOf]; omega
    · obtain rfl : j = n := by omega
      have hj1 : ¬ ((j : Int) < j) := by omega
      rw [List.take_of_length_le (by rw [treeT_len, ← HN.out]; exact Nat.le_refl _)] at HO
      obtain ⟨A9, c9, rfl⟩ := row_shape HO.out
      obtain ⟨hw9, hc9⟩ := words_own HO.out rfl
      have HW9 := Go.Lib.hid hw9
      clear hw9
      go_wp2_with fail
      go_returns
      exact ⟨A9, c9, rfl, HW9.out, hc9, HB.out⟩
end Go.Proofs.YtmkefndmiagoaaaDoor
