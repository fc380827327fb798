/- spec.Rows, spec.Together: a text's lines; and what they are in plain words. -/
import Derived.Test.YtbibokkclejapaaDoorIndIw
import Derived.Deep.AppendLies
namespace Go.Proofs.YtbibokkclejapaaDoor
open Go.RowKit
set_option linter.unusedVariables false
set_option linter.unusedSimpArgs false

/-- A text's lines, without their line feeds. -/
def rowsL : List UInt8 → List (List UInt8)
  | [] => [[]]
  | c :: t => if c = 10 then [] :: rowsL t else match rowsL t with
    | [] => [[c]]
    | x :: xs => (c :: x) :: xs
/-- Lines as a text. -/
def togL : List (List UInt8) → List UInt8
  | [] => []
  | [x] => x
  | x :: y :: r => x ++ 10 :: togL (y :: r)
/-- Each line is changed, but not an empty last one. -/
def mapR (f : List UInt8 → List UInt8) : List (List UInt8) → List (List UInt8)
  | [] => []
  | [x] => [if x = [] then x else f x]
  | x :: y :: r => f x :: mapR f (y :: r)
theorem rows_ne : ∀ l, rowsL l ≠ []
  | [] => by simp [rowsL]
  | c :: t => by
    rw [rowsL]
    split
    · simp
    · split <;> simp
theorem rows_nl (t : List UInt8) : rowsL (10 :: t) = [] :: rowsL t := by simp [rowsL]
theorem rows_cons (c : UInt8) (t x : List UInt8) (xs : List (List UInt8)) (hc : c ≠ 10) (h : rowsL t = x :: xs) : rowsL (c :: t) = (c :: x) :: xs := by
  rw [rowsL, if_neg hc, h]
theorem rows_line (t : List UInt8) : ∀ x : List UInt8, (∀ c ∈ x, c ≠ 10) → rowsL (x ++ 10 :: t) = x :: rowsL t
  | [], _ => rows_nl t
  | c :: x, h => rows_cons c _ x _ (h c (by simp)) (rows_line t x fun d hd => h d (by simp [hd]))
theorem rows_last : ∀ x : List UInt8, (∀ c ∈ x, c ≠ 10) → rowsL x = [x]
  | [], _ => rfl
  | c :: x, h => rows_cons c x x [] (h c (by simp)) (rows_last x fun d hd => h d (by simp [hd]))
theorem tog_cons (x : List UInt8) (r : List (List UInt8)) (h : r ≠ []) : togL (x :: r) = x ++ 10 :: togL r := by
  cases r with
  | nil => exact absurd rfl h
  | cons y r => rfl
theorem tog_head (c : UInt8) (x : List UInt8) (r : List (List UInt8)) : togL ((c :: x) :: r) = c :: togL (x :: r) := by
  cases r <;> rfl
theorem tog_pre (p x : List UInt8) (r : List (List UInt8)) : togL ((p ++ x) :: r) = p ++ togL (x :: r) := by
  cases r with
  | nil => rfl
  | cons y r => simp [togL]
theorem map_ne (f : List UInt8 → List UInt8) (r : List (List UInt8)) (h : r ≠ []) : mapR f r ≠ [] := by
  cases r with
  | nil => exact absurd rfl h
  | cons x r => cases r <;> simp [mapR]
theorem map_cons (f : List UInt8 → List UInt8) (x : List UInt8) (r : List (List UInt8)) (h : r ≠ [] ∨ x ≠ []) : mapR f (x :: r) = f x :: mapR f r := by
  cases r with
  | nil =>
    have : x ≠ [] := by simpa using h
    simp [mapR, this]
  | cons y r => rfl
theorem map_length (f : List UInt8 → List UInt8) : ∀ r, (mapR f r).length = r.length
  | [] => rfl
  | [x] => rfl
  | x :: y :: r => by rw [mapR, List.length_cons, map_length f (y :: r)]; rfl
theorem map_get (f : List UInt8 → List UInt8) : ∀ (r : List (List UInt8)) (j : Nat) (h : j < r.length), (mapR f r)[j]? = some (if j + 1 < r.length ∨ r[j] ≠ [] then f r[j] else r[j])
  | [x], 0, _ => by by_cases e : x = [] <;> simp [mapR, e]
  | x :: y :: r, 0, _ => by simp [mapR]
  | x :: y :: r, j + 1, h => by
    have := map_get f (y :: r) j (by simpa using h)
    simpa [mapR] using this
theorem tog_ind (p : List UInt8) : ∀ l, togL (mapR (fun x => p ++ x) (rowsL l)) = indP p false l ∧ ∀ x xs, rowsL l = x :: xs → togL (x :: mapR (fun x => p ++ x) xs) = indP p true l
  | [] => by simp [rowsL, mapR, togL, indP]
  | c :: t => by
    obtain ⟨h1, h2⟩ := tog_ind p t
    by_cases hc : c = 10
    · subst hc
      rw [rows_nl]
      refine ⟨?_, fun x xs e => ?_⟩
      · rw [map_cons _ _ _ (.inl (rows_ne t)), tog_cons _ _ (map_ne _ _ (rows_ne t)), h1]
        simp [indP]
      · cases e
        rw [tog_cons _ _ (map_ne _ _ (rows_ne t)), h1]
        simp [indP]
    · cases hr : rowsL t with
      | nil => exact absurd hr (rows_ne t)
      | cons x xs =>
        have h3 := h2 x xs hr
        rw [rows_cons c t x xs hc hr]
        have hb : (c != 10) = true := by simp [hc]
        refine ⟨?_, fun y ys e => ?_⟩
        · rw [map_cons _ _ _ (.inr (by simp)), tog_pre, tog_head, h3]
          simp [indP, hb]
        · cases e
          rw [tog_head, h3]
          simp [indP, hb]
theorem tog_snoc (x : List UInt8) : ∀ r : List (List UInt8), togL (r ++ [x]) = if r = [] then x else togL r ++ 10 :: x
  | [] => rfl
  | [y] => rfl
  | y :: z :: r => by
    have := tog_snoc x (z :: r)
    rw [if_neg (by simp)] at this
    rw [if_neg (by simp), List.cons_append, tog_cons y (z :: r ++ [x]) (by simp), this, tog_cons y (z :: r) (by simp)]
    simp
theorem rows_length (l : List UInt8) : (rowsL l).length ≤ l.length + 1 := by
  induction l with
  | nil => simp [rowsL]
  | cons c t ih =>
    rw [rowsL]
    split
    · simp; omega
    · split
      · simp
      · rename_i x xs e
        rw [e] at ih
        simp at ih ⊢
        omega
theorem drop_cut (l : List UInt8) (f k : Nat) (hf : f ≤ k) : l.drop f = (l.drop f).take (k - f) ++ l.drop k := by
  have h := List.take_append_drop (k - f) (l.drop f)
  rw [List.drop_drop, show f + (k - f) = k by omega] at h
  exact h.symm
theorem no_nl (l : List UInt8) (f k : Nat) (h : ∀ j, f ≤ j → j < k → l[j]? ≠ some 10) : ∀ c ∈ (l.drop f).take (k - f), c ≠ 10 := fun c hc => by
  obtain ⟨j, hj, e⟩ := List.getElem_of_mem hc
  rintro rfl
  have hj2 : j < k - f := by rw [List.length_take] at hj; omega
  refine h (f + j) (by omega) (by omega) ?_
  have h2 : ((l.drop f).take (k - f))[j]? = some 10 := by rw [List.getElem?_eq_getElem hj, e]
  rw [List.getElem?_take_of_lt hj2, List.getElem?_drop] at h2
  exact h2
theorem cut_line (l : List UInt8) (f k : Nat) (hf : f ≤ k) (hk : l[k]? = some 10) (hno : ∀ j, f ≤ j → j < k → l[j]? ≠ some 10) : rowsL (l.drop f) = (l.drop f).take (k - f) :: rowsL (l.drop (k + 1)) := by
  have h1 := drop_cut l f k hf
  have h2 : l.drop k = 10 :: l.drop (k + 1) := by
    obtain ⟨hlt, e⟩ := List.getElem?_eq_some_iff.1 hk
    rw [List.drop_eq_getElem_cons hlt, e]
  rw [h2] at h1
  have h3 := rows_line (l.drop (k + 1)) _ (no_nl l f k hno)
  rw [← h1] at h3
  exact h3
theorem cut_last (l : List UInt8) (f k : Nat) (hf : f ≤ k) (hk : l.length ≤ k) (hno : ∀ j, f ≤ j → j < k → l[j]? ≠ some 10) : rowsL (l.drop f) = [(l.drop f).take (k - f)] := by
  have h1 := drop_cut l f k hf
  rw [List.drop_of_length_le hk, List.append_nil] at h1
  have h3 := rows_last _ (no_nl l f k hno)
  rw [← h1] at h3 ⊢
  exact h3
def RInv (l : List UInt8) (k f : Nat) (acc : List (List UInt8)) : Prop :=
  (k ≤ l.length → (∀ j, f ≤ j → j < k → l[j]? ≠ some 10) ∧ rowsL l = acc ++ rowsL (l.drop f)) ∧ (k = l.length + 1 → rowsL l = acc)
theorem RInv.start (l : List UInt8) : RInv l 0 0 [] := ⟨fun _ => ⟨fun j _ h => by omega, rfl⟩, fun h => by omega⟩
theorem RInv.skip {l : List UInt8} {k f : Nat} {acc : List (List UInt8)} (h : RInv l k f acc) (hk : k < l.length) (hz : l[k]? ≠ some 10) : RInv l (k + 1) f acc := by
  obtain ⟨h1, h2⟩ := h.1 (by omega)
  refine ⟨fun _ => ⟨fun j h3 h4 => ?_, h2⟩, fun e => by omega⟩
  by_cases e : j = k
  · rw [e]; exact hz
  · exact h1 j h3 (by omega)
theorem RInv.line {l : List UInt8} {k f : Nat} {acc : List (List UInt8)} (h : RInv l k f acc) (hf : f ≤ k) (hk : k < l.length) (hz : l[k]? = some 10) : RInv l (k + 1) (k + 1) (acc ++ [(l.drop f).take (k - f)]) := by
  obtain ⟨h1, h2⟩ := h.1 (by omega)
  refine ⟨fun _ => ⟨fun j h3 h4 => by omega, ?_⟩, fun e => by omega⟩
  rw [h2, cut_line l f k hf hz h1, List.append_assoc]; rfl
theorem RInv.last {l : List UInt8} {k f : Nat} {acc : List (List UInt8)} (h : RInv l k f acc) (hf : f ≤ k) (hk : k = l.length) : RInv l (k + 1) (k + 1) (acc ++ [(l.drop f).take (k - f)]) := by
  obtain ⟨h1, h2⟩ := h.1 (by omega)
  refine ⟨fun _ => by omega, fun _ => ?_⟩
  rw [h2, cut_last l f k hf (by omega) h1]

/-! ### In memory -/
/-- A row of texts that begins a block. -/
structure TRow (w : World) (B g : Nat) (ls : List (List UInt8)) : Prop where
  hB : B ≤ g
  lt : g < w.heap.size
  c : ∀ j (h : j < ls.length), w.cell? ⟨g, j, none⟩ = some (.string (tx ls[j]))
  f : ∀ j, w.frozen? ⟨g, j, none⟩ = false
theorem TRow.below {w w' : World} {B g : Nat} {ls : List (List UInt8)} (h : TRow w B g ls) (hb : Below w.heap.size w w') : TRow w' B g ls :=
  ⟨h.hB, Nat.lt_of_lt_of_le h.lt hb.size, fun j hj => (hb.cell (p := ⟨g, j, none⟩) h.lt).trans (h.c j hj), fun j => (hb.frozen (p := ⟨g, j, none⟩) h.lt).trans (h.f j)⟩
theorem TRow.set {w : World} {B g : Nat} {ls : List (List UInt8)} (h : TRow w B g ls) (k : Nat) (hk : k < ls.length) (y : List UInt8) : TRow (w.setCell ⟨g, k, none⟩ (.string (tx y))) B g (ls.set k y) := by
  refine ⟨h.hB, by simpa [World.setCell] using h.lt, fun j hj => ?_, fun j => (World.frozen?_setCell _ _ _ _).trans (h.f j)⟩
  rw [List.length_set] at hj
  by_cases e : j = k
  · subst e
    rw [World.cell?_setCell_same' _ _ _ (by rw [h.c j hk]; rfl), List.getElem_set_self]
  · rw [World.cell?_setCell_other _ _ _ _ (by intro e2; injection e2 with _ e3; exact e e3.symm), List.getElem_set_ne (fun e2 => e e2.symm)]
    exact h.c j hj
theorem TRow.owns {w : World} {B : Nat} {v : Value} {ls : List (List UInt8)} (h : w.ownsRow B 9 1 v ls.length (ls.map fun x => Value.string (tx x))) (hn : ls ≠ []) : ∃ g cap, v = .slice (some ⟨g, 0, none⟩) ls.length cap ∧ TRow w B g ls := by
  obtain ⟨_, h2⟩ := h
  rcases h2 with ⟨_, h3⟩ | ⟨g, cap, cur, hv, hg, hc, _, _, _, ht⟩
  · exact absurd (List.length_eq_zero_iff.1 h3) hn
  · refine ⟨g, cap, hv, hg, (Array.getElem?_eq_some_iff.1 hc).1, fun j hj => ?_, fun j => by rw [World.frozen?, hc]; simp⟩
    rw [World.cell?, hc]
    show cur[j]? = _
    have e : (cur.toList.take (ls.length * 1))[j]? = (ls.map fun x => Value.string (tx x))[j]? := by rw [ht]
    rw [List.getElem?_take_of_lt (by omega), Array.getElem?_toList] at e
    rw [e]
    simp [hj]
def RowsPost (ls : List (List UInt8)) (w : World) (e : Ending) (w' : World) : Prop := ∃ g cap, e = .returned (.slice (some ⟨g, 0, none⟩) ls.length cap) ∧ TRow w' w.heap.size g ls ∧ Below w.heap.size w w'
theorem news_one (w : World) (v : Value) (t : TypeId) : ∀ (j : Nat) (u : Value), [v][j]? = some u → (w.alloc (.cells #[v] t)).cell? ((⟨w.heap.size, 0, none⟩ : Addr).add j) = some u := by
  intro j u h
  match j, h with
  | 0, h => simp at h; subst h; simp [Addr.add]
  | j + 1, h => simp at h
theorem tx_cut (l : List UInt8) (f k : Nat) : (tx l).extract f k = tx ((l.drop f).take (k - f)) := by
  apply ByteArray.ext
  simp [tx, ByteArray.data_extract, List.extract]

set_option maxRecDepth 100000 in
set_option maxHeartbeats 1000000 in
theorem rows_any (l : List UInt8) (w : World) (hl : l.length ≤ 900000) : Calls Tryd.prog 27 #[.string (tx l)] w (RowsPost (rowsL l) w) := by
  obtain ⟨ib, hib, hz0, hz1, hz2⟩ := info_parts (show (Tryd.prog.info? 9).map (fun i => (i.zero, i.size, i.bytes)) = some (some (.string ⟨#[]⟩), 1, 16) by kernel_rfl)
  obtain ⟨s, hs⟩ : ∃ s, s = tx l := ⟨_, rfl⟩
  obtain ⟨n, hn⟩ : ∃ n, n = l.length := ⟨_, rfl⟩
  have hsn : s.size = n := by rw [hs, tx_size, hn]
  have hn2 : n ≤ 900000 := by omega
  have HS := Go.Lib.hid hs
  have HN := Go.Lib.hid hn
  rw [← hs]
  clear hs hn hl
  go_enter Tryd.func27, Tryd.ntmps27
  go_wp2_with fail
  go_loopw [3, 4, 5] (fun v0 fr i wr => ∃ (v : Value) (k f : Nat) (acc : List (List UInt8)), v = v0 ∧ i = .int .i64 (k : Nat) ∧ fr = .int .i64 (f : Nat) ∧ f ≤ k ∧ k ≤ n + 1 ∧ acc.length ≤ f ∧ wr.ownsRow w.heap.size 9 1 v acc.length (acc.map fun x => Value.string (tx x)) ∧ Below w.heap.size w wr ∧ Hid (RInv l k f acc)) (fun _ _ i _ => n + 1 - (intOf i).toNat)
  case atStart => exact ⟨_, 0, 0, [], rfl, rfl, rfl, Nat.le_refl _, Nat.zero_le _, Nat.le_refl _, World.ownsRow_nil _ _ _ _, Below.refl _ _, RInv.start l⟩
  case round =>
    obtain ⟨v, k, f, acc, rfl, rfl, rfl, hfk, hk, hacc, hown, hb, HR⟩ := hrel
    have hbs := hb.size
    by_cases hlt : k ≤ n
    · have hf0 : (0 : Int) ≤ f := by omega
      have hf1 : (f : Int) ≤ k := by omega
      have hk1 : (k : Int) ≤ s.size := by omega
      have HX : Hid (s.extract f k = tx ((l.drop f).take (k - f))) := by
        refine Go.Lib.hid ?_
        rw [HS.out]; exact tx_cut l f k
      by_cases hkn : k = n
      · have HZ := Go.Lib.hid (HR.out.last hfk (by rw [hkn]; exact HN.out))
        subst hkn
        go_wp2_with (at_builtin; refine wpList_append_own _ rfl _ _ 34 rfl w.heap.size 9 ib (.string ⟨#[]⟩) 1 16 Tryd.underlying34 hib hz0 hz1 hz2 rfl (by decide) v acc.length (acc.map fun x => Value.string (tx x)) rfl (hown.alloc _) ⟨wr.heap.size, 0, none⟩ 1 1 [.string (s.extract f k)] rfl rfl (news_one _ _ _) (by simp [Value.oneCell']) ?c1 ?c2 ?c3 ?_)
        case c1 => unfold maxLen; omega
        case c2 => omega
        case c3 => simp; omega
        intro v2 w2 hown2 hgrow2 _
        have hb2 : Below w.heap.size w w2 := (hb.alloc hbs _).grown hgrow2 (by simp; omega) (fun j hj => (hown.lt j hj).1)
        have hown3 : w2.ownsRow w.heap.size 9 1 v2 (acc ++ [(l.drop f).take (k - f)]).length ((acc ++ [(l.drop f).take (k - f)]).map fun x => Value.string (tx x)) := by
          rw [HX.out] at hown2
          simpa using hown2
        clear hgrow2 hown2 hown
        go_wp2_with fail
        go_roundw
        case rel => exact ⟨_, k + 1, k + 1, _, rfl, by go_num, by go_num, by omega, by omega, by rw [List.length_append, List.length_singleton]; omega, hown3, hb2, HZ⟩
        case measure => simp [intOf] <;> omega
      · have hks : k < s.size := by omega
        have q1 : ((k : Int) == (s.size : Int)) = false := by
          have : (k : Int) ≠ (s.size : Int) := by omega
          simpa using this
        obtain ⟨z, hz⟩ : ∃ z, z = (s[k]'hks).toNat := ⟨_, rfl⟩
        have hz' : ∀ h, (s[k]'h).toNat = z := fun _ => hz.symm
        have hlk : k < l.length := by rw [← HN.out]; omega
        have hzl : l[k]? = some (s[k]'hks) := by
          have h1 := HS.out
          subst h1
          exact List.getElem?_eq_getElem hlk
        have HK := Go.Lib.hid hkn
        by_cases h10 : z = 10
        · have HZ := Go.Lib.hid (HR.out.line hfk hlk (by rw [hzl]; exact congrArg some (UInt8.toNat_inj.1 (hz.symm.trans h10))))
          have q2 : (((z : Nat) : Int) == 10) = true := by rw [h10]; rfl
          clear h10 hz hzl hlk hkn
          go_wp2_with (at_builtin; refine wpList_append_own _ rfl _ _ 34 rfl w.heap.size 9 ib (.string ⟨#[]⟩) 1 16 Tryd.underlying34 hib hz0 hz1 hz2 rfl (by decide) v acc.length (acc.map fun x => Value.string (tx x)) rfl (hown.alloc _) ⟨wr.heap.size, 0, none⟩ 1 1 [.string (s.extract f k)] rfl rfl (news_one _ _ _) (by simp [Value.oneCell']) ?c1 ?c2 ?c3 ?_)
          case c1 => unfold maxLen; omega
          case c2 => omega
          case c3 => simp; omega
          intro v2 w2 hown2 hgrow2 _
          have hb2 : Below w.heap.size w w2 := (hb.alloc hbs _).grown hgrow2 (by simp; omega) (fun j hj => (hown.lt j hj).1)
          have hown3 : w2.ownsRow w.heap.size 9 1 v2 (acc ++ [(l.drop f).take (k - f)]).length ((acc ++ [(l.drop f).take (k - f)]).map fun x => Value.string (tx x)) := by
            rw [HX.out] at hown2
            simpa using hown2
          clear hgrow2 hown2 hown
          go_wp2_with fail
          go_roundw
          case rel => exact ⟨_, k + 1, k + 1, _, rfl, by go_num, by go_num, by omega, by omega, by rw [List.length_append, List.length_singleton]; omega, hown3, hb2, HZ⟩
          case measure => simp [intOf]; omega
        · have HZ := Go.Lib.hid (HR.out.skip hlk (by rw [hzl]; intro e; exact h10 (by rw [hz, Option.some.inj e]; rfl)))
          have q2 : (((z : Nat) : Int) == 10) = false := by
            have : (z : Int) ≠ 10 := by omega
            simpa using this
          clear h10 hz hzl hlk hkn
          go_wp2_with fail
          go_roundw
          case rel => exact ⟨v, k + 1, f, acc, rfl, by go_num, rfl, by omega, by omega, by omega, hown, hb, HZ⟩
          case measure => simp [intOf]; omega
    · have hkn : k = n + 1 := by omega
      have HE : Hid (rowsL l = acc) := HR.out.2 (by rw [hkn, HN.out])
      go_wp2_with fail
      go_returns
      obtain ⟨g, cap, hv, ht⟩ := TRow.owns hown (by rw [← HE.out]; exact rows_ne l)
      rw [HE.out]
      exact ⟨g, cap, congrArg Ending.returned hv, ht, hb⟩

set_option maxHeartbeats 1000000 in
theorem together_any (g cap B : Nat) (ls : List (List UInt8)) (w : World) (h : TRow w B g ls) (hl : (togL ls).length ≤ 1000000000) (hn : ls.length ≤ 1000000000) (hls : ∀ x ∈ ls, x.length ≤ 1000000000) (hpre : ∀ k, (togL (ls.take k)).length ≤ 1000000000) :
    Calls Tryd.prog 29 #[.slice (some ⟨g, 0, none⟩) ls.length cap] w fun e w' => e = .returned (.string (tx (togL ls))) ∧ w = w' := by
  obtain ⟨n, hn2⟩ : ∃ n, n = ls.length := ⟨_, rfl⟩
  have HT := Go.Lib.hid h
  have HL := Go.Lib.hid hls
  have HP := Go.Lib.hid hpre
  have HN := Go.Lib.hid hn2
  have hlt := h.lt
  rw [← hn2] at hn ⊢
  clear h hls hpre hn2 hl
  go_enter Tryd.func29, Tryd.ntmps29
  go_wp2_with fail
  go_loop [3, 4] (fun o i => ∃ (k : Nat) (X : ByteArray), k ≤ n ∧ i = .int .i64 (k : Nat) ∧ o = .string X ∧ Hid (X = tx (togL (ls.take k)))) (fun _ i => n - (intOf i).toNat)
  case atStart => exact ⟨0, ⟨#[]⟩, Nat.zero_le _, rfl, rfl, Go.Lib.hid (by rfl)⟩
  case round =>
    obtain ⟨k, X, hk, rfl, rfl, HX⟩ := hrel
    by_cases hkn : k < n
    · have hkl : k < ls.length := by rw [← HN.out]; exact hkn
      obtain ⟨y, hy⟩ : ∃ y, y = ls[k] := ⟨_, rfl⟩
      obtain ⟨Y, hY⟩ : ∃ Y, Y = tx y := ⟨_, rfl⟩
      have hck : w.cell? ⟨g, k, none⟩ = some (.string Y) := by rw [hY, hy]; exact HT.out.c k hkl
      have hXs : X.size ≤ 1000000000 := by rw [HX.out, tx_size]; exact HP.out k
      have hYs : Y.size ≤ 1000000000 := by rw [hY, tx_size, hy]; exact HL.out _ (List.getElem_mem _)
      have htk : ls.take (k + 1) = ls.take k ++ [y] := by rw [List.take_add_one, List.getElem?_eq_getElem hkl, hy]; rfl
      have hts := tog_snoc y (ls.take k)
      rw [← htk] at hts
      have HTS := Go.Lib.hid hts
      have HY := Go.Lib.hid hY
      have c1 : (9223372036854775807 < X.size + 1) = False := by simp; omega
      have c2 : (9223372036854775807 < X.size + 1 + Y.size) = False := by simp; omega
      have c3 : (9223372036854775807 < X.size + Y.size) = False := by simp; omega
      clear hy hY htk hts hXs hYs
      by_cases h0 : k = 0
      · subst h0
        go_wp2_with fail
        go_round
        case rel =>
          refine ⟨1, _, by omega, by go_num, rfl, Go.Lib.hid ?_⟩
          rw [HX.out, HTS.out, HY.out]
          rw [if_pos (by simp)]
          rfl
        case measure => simp [intOf]; omega
      · have h1 : (0 : Int) < k := by omega
        have H0 := Go.Lib.hid h0
        clear h0
        go_wp2_with fail
        go_round
        case rel =>
          refine ⟨k + 1, _, by omega, by go_num, rfl, Go.Lib.hid ?_⟩
          rw [HX.out, HTS.out, HY.out]
          rw [if_neg (by
            intro e
            have := congrArg List.length e
            rw [List.length_take, List.length_nil] at this
            have h2 := H0.out
            omega)]
          apply ByteArray.ext
          simp [tx]
        case measure => simp [intOf]; omega
    · have hE : k = n := by omega
      have HE := Go.Lib.hid hE
      clear hE
      go_wp2_with fail
      go_returns
      refine ⟨?_, rfl⟩
      have := HX.out
      rw [HE.out, HN.out, List.take_length] at this
      rw [← this]
      rfl
end Go.Proofs.YtbibokkclejapaaDoor
