/- Texts that are set back: in plain words; dedent.minIndent, dedent.dedent, impl.Dedented. -/
import Derived.Test.YtbibokkclejapaaDoorIndBySpec
namespace Go.Proofs.YtbibokkclejapaaDoor
open Go.RowKit
set_option linter.unusedVariables false
set_option linter.unusedSimpArgs false

theorem tog_rows : ∀ l : List UInt8, togL (rowsL l) = l
  | [] => rfl
  | c :: t => by
    have ih := tog_rows t
    by_cases hc : c = 10
    · subst hc
      rw [rows_nl, tog_cons _ _ (rows_ne t), ih]; rfl
    · cases hr : rowsL t with
      | nil => exact absurd hr (rows_ne t)
      | cons x xs =>
        rw [rows_cons c t x xs hc hr, tog_head, ← hr, ih]
theorem rows_clean (l : List UInt8) : ∀ x ∈ rowsL l, ∀ c ∈ x, c ≠ 10 ∧ c ∈ l := by
  induction l with
  | nil => intro x h; simp [rowsL] at h; simp [h]
  | cons c t ih =>
    intro x h d hd
    by_cases hc : c = 10
    · subst hc
      rw [rows_nl] at h
      rcases List.mem_cons.1 h with rfl | h
      · simp at hd
      · have := ih x h d hd
        exact ⟨this.1, List.mem_cons_of_mem _ this.2⟩
    · cases hr : rowsL t with
      | nil => exact absurd hr (rows_ne t)
      | cons y ys =>
        rw [rows_cons c t y ys hc hr] at h
        rw [hr] at ih
        rcases List.mem_cons.1 h with rfl | h
        · rcases List.mem_cons.1 hd with rfl | hd
          · exact ⟨hc, by simp⟩
          · have := ih y (by simp) d hd
            exact ⟨this.1, List.mem_cons_of_mem _ this.2⟩
        · have := ih x (by simp [h]) d hd
          exact ⟨this.1, List.mem_cons_of_mem _ this.2⟩
/-- How many blanks a line begins with. -/
def insL : List UInt8 → Nat
  | [] => 0
  | c :: t => if c = 32 then insL t + 1 else 0
theorem ins_le : ∀ x, insL x ≤ x.length
  | [] => Nat.le_refl _
  | c :: t => by
    have := ins_le t
    rw [insL]; split
    · simp; omega
    · simp
/-- A line is blanks, and then nothing, or something else. -/
theorem ins_form : ∀ x : List UInt8, (insL x = x.length ∧ x = List.replicate x.length 32) ∨ ∃ d y, d ≠ 32 ∧ x = List.replicate (insL x) 32 ++ d :: y
  | [] => .inl ⟨rfl, rfl⟩
  | c :: t => by
    by_cases hc : c = 32
    · subst hc
      have e : insL ((32 : UInt8) :: t) = insL t + 1 := by simp [insL]
      rw [e]
      rcases ins_form t with ⟨h1, h2⟩ | ⟨d, y, h1, h2⟩
      · exact .inl ⟨by simp [h1], by rw [List.length_cons, List.replicate_succ, ← h2]⟩
      · exact .inr ⟨d, y, h1, by rw [List.replicate_succ, List.cons_append, ← h2]⟩
    · exact .inr ⟨c, t, hc, by simp [insL, hc]⟩
/-- dedent.minIndent, sign by sign: what has been counted, the least so far (0: none), whether the line has not begun. -/
def stepM (s : Nat × Nat × Bool) (c : UInt8) : Nat × Nat × Bool :=
  if c = 32 then (if s.2.2 = true then s.1 + 1 else s.1, s.2.1, s.2.2)
  else if c = 10 then (0, s.2.1, true)
  else if 0 < s.1 ∧ (s.2.1 = 0 ∨ s.1 < s.2.1) then (0, s.1, false) else (s.1, s.2.1, false)
def lst (m : Nat) (x : List UInt8) : Nat := if insL x = x.length then m else if 0 < insL x ∧ (m = 0 ∨ insL x < m) then insL x else m
theorem m_blanks (k m : Nat) : ∀ n : Nat, (List.replicate n 32).foldl stepM (k, m, true) = (k + n, m, true)
  | 0 => rfl
  | n + 1 => by
    rw [List.replicate_succ, List.foldl_cons, show stepM (k, m, true) 32 = (k + 1, m, true) by simp [stepM], m_blanks (k + 1) m n]
    simp; omega
theorem m_rest (k m : Nat) (h : ¬ (0 < k ∧ (m = 0 ∨ k < m))) : ∀ y : List UInt8, (∀ c ∈ y, c ≠ 10) → y.foldl stepM (k, m, false) = (k, m, false)
  | [], _ => rfl
  | c :: y, hy => by
    have h1 : stepM (k, m, false) c = (k, m, false) := by
      unfold stepM
      by_cases e : c = 32
      · simp [e]
      · rw [if_neg e, if_neg (hy c (by simp)), if_neg h]
    rw [List.foldl_cons, h1, m_rest k m h y fun d hd => hy d (by simp [hd])]
theorem m_line (m : Nat) (x : List UInt8) (hx : ∀ c ∈ x, c ≠ 10) : ∃ a b, x.foldl stepM (0, m, true) = (a, lst m x, b) := by
  rcases ins_form x with ⟨h1, h2⟩ | ⟨d, y, h1, h2⟩
  · rw [lst, if_pos h1]
    rw [h2, m_blanks]
    exact ⟨_, _, rfl⟩
  · have hlen : insL x < x.length := by
      have := congrArg List.length h2
      simp at this; omega
    have hd : d ≠ 10 := hx d (by rw [h2]; simp)
    have hy : ∀ c ∈ y, c ≠ 10 := fun c hc => hx c (by rw [h2]; simp [hc])
    rw [lst, if_neg (by omega)]
    obtain ⟨k, hk⟩ : ∃ k, k = insL x := ⟨_, rfl⟩
    rw [← hk] at h2 ⊢
    rw [h2, List.foldl_append, m_blanks, List.foldl_cons, Nat.zero_add]
    by_cases hc : 0 < k ∧ (m = 0 ∨ k < m)
    · rw [if_pos hc, show stepM (k, m, true) d = (0, k, false) by simp [stepM, h1, hd, hc]]
      rw [m_rest 0 k (by omega) y hy]
      exact ⟨_, _, rfl⟩
    · rw [if_neg hc, show stepM (k, m, true) d = (k, m, false) by unfold stepM; rw [if_neg h1, if_neg hd, if_neg hc]]
      rw [m_rest k m hc y hy]
      exact ⟨_, _, rfl⟩
theorem m_rows : ∀ (r : List (List UInt8)) (m : Nat), r ≠ [] → (∀ x ∈ r, ∀ c ∈ x, c ≠ 10) → ((togL r).foldl stepM (0, m, true)).2.1 = r.foldl lst m
  | [x], m, _, h => by
    obtain ⟨a, b, e⟩ := m_line m x (h x (by simp))
    simp [togL, e]
  | x :: y :: r, m, _, h => by
    obtain ⟨a, b, e⟩ := m_line m x (h x (by simp))
    rw [tog_cons _ _ (by simp), List.foldl_append, e, List.foldl_cons, show stepM (a, lst m x, b) 10 = (0, lst m x, true) by simp [stepM], m_rows (y :: r) (lst m x) (by simp) fun z hz => h z (by simp [hz])]
    rfl
/-- dedent.dedent, sign by sign: what has been left out of the line, whether more may be, what is written. -/
def stepD (n : Nat) (s : Nat × Bool × List UInt8) (c : UInt8) : Nat × Bool × List UInt8 :=
  if c = 32 then (if s.2.1 = true then (if s.1 < n then (s.1 + 1, true, s.2.2) else (s.1, false, s.2.2 ++ [32])) else (s.1, s.2.1, s.2.2 ++ [32]))
  else if c = 10 then (0, true, s.2.2 ++ [10])
  else (s.1, s.2.1, s.2.2 ++ [c])
def cutL (n : Nat) (x : List UInt8) : List UInt8 := x.drop (min n (insL x))
theorem d_blanks (n : Nat) (out : List UInt8) : ∀ (k a : Nat), a + k ≤ n → (List.replicate k 32).foldl (stepD n) (a, true, out) = (a + k, true, out)
  | 0, a, _ => rfl
  | k + 1, a, h => by
    rw [List.replicate_succ, List.foldl_cons, show stepD n (a, true, out) 32 = (a + 1, true, out) by simp [stepD]; omega, d_blanks n out k (a + 1) (by omega)]
    simp; omega
theorem d_all (n a : Nat) : ∀ (y out : List UInt8), (∀ c ∈ y, c ≠ 10) → ∃ b, y.foldl (stepD n) (a, false, out) = (a, b, out ++ y)
  | [], out, _ => ⟨false, by simp⟩
  | c :: y, out, h => by
    have h1 : stepD n (a, false, out) c = (a, false, out ++ [c]) := by
      unfold stepD
      by_cases e : c = 32
      · simp [e]
      · rw [if_neg e, if_neg (h c (by simp))]
    obtain ⟨b, h2⟩ := d_all n a y (out ++ [c]) fun d hd => h d (by simp [hd])
    exact ⟨b, by rw [List.foldl_cons, h1, h2]; simp⟩
theorem d_full (n : Nat) : ∀ (y out : List UInt8), (∀ c ∈ y, c ≠ 10) → ∃ b, y.foldl (stepD n) (n, true, out) = (n, b, out ++ y)
  | [], out, _ => ⟨true, by simp⟩
  | c :: y, out, h => by
    by_cases e : c = 32
    · have h1 : stepD n (n, true, out) c = (n, false, out ++ [c]) := by simp [stepD, e]
      obtain ⟨b, h2⟩ := d_all n n y (out ++ [c]) fun d hd => h d (by simp [hd])
      exact ⟨b, by rw [List.foldl_cons, h1, h2]; simp⟩
    · have h1 : stepD n (n, true, out) c = (n, true, out ++ [c]) := by
        unfold stepD
        rw [if_neg e, if_neg (h c (by simp))]
      obtain ⟨b, h2⟩ := d_full n y (out ++ [c]) fun d hd => h d (by simp [hd])
      exact ⟨b, by rw [List.foldl_cons, h1, h2]; simp⟩
theorem d_line (n : Nat) (x out : List UInt8) (hx : ∀ c ∈ x, c ≠ 10) (hn : insL x = x.length ∨ n ≤ insL x) : ∃ a b, x.foldl (stepD n) (0, true, out) = (a, b, out ++ cutL n x) := by
  by_cases h : n ≤ insL x
  · have hx2 : x = List.replicate n 32 ++ x.drop n := by
      rcases ins_form x with ⟨h1, h2⟩ | ⟨d, y, h1, h2⟩
      · have e : x.drop n = List.replicate (x.length - n) 32 := by
          conv => lhs; rw [h2]
          rw [List.drop_replicate]
        rw [e, List.replicate_append_replicate, show n + (x.length - n) = x.length by omega]
        exact h2
      · have e : x.drop n = List.replicate (insL x - n) 32 ++ d :: y := by
          conv => lhs; rw [h2]
          rw [List.drop_append_of_le_length (by simp; omega), List.drop_replicate]
        rw [e, ← List.append_assoc, List.replicate_append_replicate, show n + (insL x - n) = insL x by omega]
        exact h2
    have e : cutL n x = x.drop n := by rw [cutL, Nat.min_eq_left h]
    rw [e]
    obtain ⟨b, h2⟩ := d_full n (x.drop n) out fun c hc => hx c (List.mem_of_mem_drop hc)
    refine ⟨n, b, ?_⟩
    conv => lhs; rw [hx2]
    rw [List.foldl_append, d_blanks n out n 0 (by omega), Nat.zero_add, h2]
  · have h1 : insL x = x.length := by omega
    have e : cutL n x = [] := by rw [cutL, Nat.min_eq_right (by omega), h1]; simp
    rcases ins_form x with ⟨_, h2⟩ | ⟨d, y, _, h2⟩
    · rw [e, List.append_nil]
      refine ⟨x.length, true, ?_⟩
      conv => lhs; rw [h2]
      rw [d_blanks n out x.length 0 (by omega), Nat.zero_add]
    · have := congrArg List.length h2
      simp at this; omega
theorem d_rows (n : Nat) : ∀ (r : List (List UInt8)) (out : List UInt8), r ≠ [] → (∀ x ∈ r, ∀ c ∈ x, c ≠ 10) → (∀ x ∈ r, insL x = x.length ∨ n ≤ insL x) → ((togL r).foldl (stepD n) (0, true, out)).2.2 = out ++ togL (r.map (cutL n))
  | [x], out, _, h, hn => by
    obtain ⟨a, b, e⟩ := d_line n x out (h x (by simp)) (hn x (by simp))
    simp [togL, e]
  | x :: y :: r, out, _, h, hn => by
    obtain ⟨a, b, e⟩ := d_line n x out (h x (by simp)) (hn x (by simp))
    rw [tog_cons _ _ (by simp), List.foldl_append, e, List.foldl_cons, show stepD n (a, b, out ++ cutL n x) 10 = (0, true, out ++ cutL n x ++ [10]) by simp [stepD], d_rows n (y :: r) _ (by simp) (fun z hz => h z (by simp [hz])) (fun z hz => hn z (by simp [hz]))]
    have e2 : List.map (cutL n) (x :: y :: r) = cutL n x :: cutL n y :: List.map (cutL n) r := rfl
    rw [e2, tog_cons (cutL n x) (cutL n y :: List.map (cutL n) r) (by simp)]
    simp
/-- The least is beneath each line with something else, where each of these begins with blanks. -/
theorem lst_le : ∀ (r : List (List UInt8)) (m : Nat), (∀ x ∈ r, insL x = x.length ∨ 0 < insL x) → (∀ x ∈ r, insL x = x.length ∨ r.foldl lst m ≤ insL x) ∧ (m = 0 ∨ r.foldl lst m ≤ m) ∧ (m ≠ 0 → r.foldl lst m ≠ 0)
  | [], m, _ => by simp
  | x :: r, m, h => by
    obtain ⟨h1, h2, h3⟩ := lst_le r (lst m x) fun y hy => h y (by simp [hy])
    rw [List.foldl_cons]
    have hx := h x (by simp)
    have hl : lst m x = if insL x = x.length then m else if 0 < insL x ∧ (m = 0 ∨ insL x < m) then insL x else m := rfl
    refine ⟨fun y hy => ?_, ?_, ?_⟩
    · rcases List.mem_cons.1 hy with rfl | hy
      · by_cases e : insL y = y.length
        · exact .inl e
        · right
          rw [if_neg e] at hl
          split at hl <;> omega
      · exact h1 y hy
    · by_cases e : insL x = x.length
      · rw [if_pos e] at hl; omega
      · rw [if_neg e] at hl
        split at hl <;> omega
    · by_cases e : insL x = x.length
      · rw [if_pos e] at hl; omega
      · rw [if_neg e] at hl
        split at hl <;> omega

theorem take_fold {α : Type} (f : α → UInt8 → α) (a : α) (l : List UInt8) (k : Nat) (h : k < l.length) : (l.take (k + 1)).foldl f a = f ((l.take k).foldl f a) l[k] := by
  rw [List.take_add_one, List.getElem?_eq_getElem h, Option.toList_some, List.foldl_append]
  rfl
set_option maxHeartbeats 1000000 in
theorem minIndent_any (l : List UInt8) (w : World) (hp : Pla l) (hl : l.length ≤ 900000) : Calls Tryd.prog 49 #[.string (tx l)] w fun e w' => e = .returned (.int .i64 ((l.foldl stepM (0, 0, true)).2.1 : Nat)) ∧ w = w' := by
  obtain ⟨s, hs⟩ : ∃ s, s = tx l := ⟨_, rfl⟩
  obtain ⟨n, hn⟩ : ∃ n, n = l.length := ⟨_, rfl⟩
  have hsn : s.size = n := by rw [hs, tx_size, hn]
  have hn2 : n ≤ 900000 := by omega
  have HS := Go.Lib.hid hs
  have HN := Go.Lib.hid hn
  have HP := Go.Lib.hid hp
  rw [← hs]
  clear hs hn hl hp
  go_enter Tryd.func49, Tryd.ntmps49
  go_wp2_with fail
  go_loop [3, 4, 5, 6] (fun cu mn sa i => ∃ (k x m : Nat) (y : Bool), k ≤ n ∧ cu = .int .i64 (x : Nat) ∧ mn = .int .i64 (m : Nat) ∧ sa = .bool y ∧ i = .int .i64 (k : Nat) ∧ x ≤ k ∧ m ≤ k ∧ Hid ((l.take k).foldl stepM (0, 0, true) = (x, m, y))) (fun _ _ _ i => n - (intOf i).toNat)
  case atStart => exact ⟨0, 0, 0, true, Nat.zero_le _, rfl, rfl, rfl, rfl, Nat.le_refl _, Nat.le_refl _, Go.Lib.hid rfl⟩
  case round =>
    obtain ⟨k, x, m, y, hk, rfl, rfl, rfl, rfl, hx, hm, HF⟩ := hrel
    by_cases hlt : k < n
    · have hks : k < s.size := by omega
      have hkl : k < l.length := by rw [← HN.out]; exact hlt
      obtain ⟨c, hc⟩ : ∃ c, c = l[k] := ⟨_, rfl⟩
      obtain ⟨z, hz⟩ : ∃ z, z = c.toNat := ⟨_, rfl⟩
      have hzs : ∀ h, (s[k]'h).toNat = z := fun h => by
        have h1 := HS.out
        subst h1
        rw [hz, hc]; rfl
      have hcp := HP.out c (by rw [hc]; exact List.getElem_mem _)
      have z9 : ((z : Int) == 9) = false := by
        have : z ≠ 9 := by
          rcases hcp with h | h
          · rw [hz, h]; decide
          · omega
        simp; omega
      have hst := take_fold stepM (0, 0, true) l k hkl
      rw [HF.out, ← hc] at hst
      have h32 : z = 32 ↔ c = 32 := by rw [hz]; exact ⟨fun e => UInt8.toNat_inj.1 e, fun e => by rw [e]; rfl⟩
      have h10 : z = 10 ↔ c = 10 := by rw [hz]; exact ⟨fun e => UInt8.toNat_inj.1 e, fun e => by rw [e]; rfl⟩
      by_cases e32 : z = 32
      · have q1 : ((z : Int) == 32) = true := by rw [e32]; rfl
        rw [stepM, if_pos (h32.1 e32)] at hst
        cases y
        · rw [if_neg (by simp)] at hst
          have HST := Go.Lib.hid hst
          clear hst h32 h10 e32 hcp hz hc hkl
          go_wp2_with fail
          go_round
          case rel => exact ⟨k + 1, x, m, false, by omega, rfl, rfl, rfl, by go_num, by omega, by omega, HST⟩
          case measure => simp [intOf]; omega
        · rw [if_pos rfl] at hst
          have HST := Go.Lib.hid hst
          clear hst h32 h10 e32 hcp hz hc hkl
          go_wp2_with fail
          go_round
          case rel => exact ⟨k + 1, x + 1, m, true, by omega, by go_num, rfl, rfl, by go_num, by omega, by omega, HST⟩
          case measure => simp [intOf]; omega
      have q1 : ((z : Int) == 32) = false := by simp; omega
      rw [stepM, if_neg (fun e => e32 (h32.2 e))] at hst
      by_cases e10 : z = 10
      · have q2 : ((z : Int) == 10) = true := by rw [e10]; rfl
        rw [if_pos (h10.1 e10)] at hst
        have HST := Go.Lib.hid hst
        clear hst h32 h10 e32 e10 hcp hz hc hkl
        go_wp2_with fail
        go_round
        case rel => exact ⟨k + 1, 0, m, true, by omega, rfl, rfl, rfl, by go_num, by omega, by omega, HST⟩
        case measure => simp [intOf]; omega
      have q2 : ((z : Int) == 10) = false := by simp; omega
      rw [if_neg (fun e => e10 (h10.2 e))] at hst
      by_cases hx0 : 0 < x
      · have q3 : (0 : Int) < x := by omega
        by_cases hm0 : m = 0
        · rw [if_pos ⟨hx0, .inl hm0⟩] at hst
          have HST := Go.Lib.hid hst
          subst hm0
          clear hst h32 h10 e32 e10 hcp hz hc hkl hx0
          go_wp2_with fail
          go_round
          case rel => exact ⟨k + 1, 0, x, false, by omega, rfl, rfl, rfl, by go_num, by omega, by omega, HST⟩
          case measure => simp [intOf]; omega
        · have q4 : ((m : Int) == 0) = false := by simp; omega
          by_cases hxm : x < m
          · have q5 : (x : Int) < m := by omega
            rw [if_pos ⟨hx0, .inr hxm⟩] at hst
            have HST := Go.Lib.hid hst
            clear hst h32 h10 e32 e10 hcp hz hc hkl hx0 hm0
            go_wp2_with fail
            go_round
            case rel => exact ⟨k + 1, 0, x, false, by omega, rfl, rfl, rfl, by go_num, by omega, by omega, HST⟩
            case measure => simp [intOf]; omega
          · have q5 : ¬ (x : Int) < m := by omega
            rw [if_neg (by simp; omega)] at hst
            have HST := Go.Lib.hid hst
            clear hst h32 h10 e32 e10 hcp hz hc hkl hx0 hm0
            go_wp2_with fail
            go_round
            case rel => exact ⟨k + 1, x, m, false, by omega, rfl, rfl, rfl, by go_num, by omega, by omega, HST⟩
            case measure => simp [intOf]; omega
      · have q3 : ¬ (0 : Int) < x := by omega
        rw [if_neg (by simp; omega)] at hst
        have HST := Go.Lib.hid hst
        clear hst h32 h10 e32 e10 hcp hz hc hkl hx0
        go_wp2_with fail
        go_round
        case rel => exact ⟨k + 1, x, m, false, by omega, rfl, rfl, rfl, by go_num, by omega, by omega, HST⟩
        case measure => simp [intOf]; omega
    · have HE : Hid ((l.foldl stepM (0, 0, true)).2.1 = m) := by
        have h1 := HF.out
        have h2 : k = l.length := by rw [← HN.out]; omega
        rw [h2, List.take_length] at h1
        exact Go.Lib.hid (by rw [h1])
      go_wp2_with fail
      go_returns
      refine ⟨?_, rfl⟩
      rw [HE.out]
      rfl

theorem byteCells_snoc (l : List UInt8) (c : UInt8) : Lib.byteCells (l ++ [c]) = Lib.byteCells l ++ [.int .u8 (c.toNat : Nat)] := by simp [Lib.byteCells]
theorem byteCells_one (l : List UInt8) : ∀ v ∈ Lib.byteCells l, v.oneCell' = true := fun v hv => by
  simp [Lib.byteCells] at hv
  obtain ⟨c, _, rfl⟩ := hv
  rfl
set_option maxHeartbeats 1000000 in
theorem dedent_any (l : List UInt8) (t : Nat) (w : World) (hp : Pla l) (hl : l.length ≤ 900000) (ht : t ≤ 900000) : Calls Tryd.prog 50 #[.string (tx l), .int .i64 (t : Nat)] w fun e w' => e = .returned (.string (tx (l.foldl (stepD t) (0, true, [])).2.2)) ∧ Below w.heap.size w w' := by
  obtain ⟨s, hs⟩ : ∃ s, s = tx l := ⟨_, rfl⟩
  obtain ⟨n, hn⟩ : ∃ n, n = l.length := ⟨_, rfl⟩
  have hsn : s.size = n := by rw [hs, tx_size, hn]
  have hn2 : n ≤ 900000 := by omega
  have HS := Go.Lib.hid hs
  have HN := Go.Lib.hid hn
  have HP := Go.Lib.hid hp
  have HWB : Hid (∀ (out : List UInt8) (c : UInt8) (z : Nat) (W : World), z = c.toNat → Lib.IsBuffer 56 5 w.heap.size w.heap.size (Lib.byteCells out) W → w.heap.size ≤ W.heap.size → out.length ≤ 900000 → Calls Tryd.prog 64 #[.pointer (some ⟨w.heap.size, 0, none⟩), .int .u8 (z : Nat)] W fun e w' => e = .returned .nilIface ∧ Lib.IsBuffer 56 5 w.heap.size w.heap.size (Lib.byteCells (out ++ [c])) w' ∧ Below w.heap.size W w') := fun out c z W hz h hB ho => by
    rw [byteCells_snoc, hz]
    exact Tryd.Buffer_WriteByte w.heap.size w.heap.size (Lib.byteCells out) (c.toNat : Nat) W h hB (byteCells_one out) (by simp [Lib.byteCells]; omega)
  have HST2 : Hid (∀ (out : List UInt8) (W : World), Lib.IsBuffer 56 5 w.heap.size w.heap.size (Lib.byteCells out) W → Calls Tryd.prog 40 #[.pointer (some ⟨w.heap.size, 0, none⟩)] W fun e w' => e = .returned (.string (tx out)) ∧ ∃ n, w' = W.drewN n) := fun out W h => Tryd.Buffer_String w.heap.size w.heap.size out W h
  have HFR := Go.Lib.hid (Lib.fresh_isBuffer 56 5 w)
  rw [← hs]
  clear hs hn hl hp
  go_enter Tryd.func50, Tryd.ntmps50
  go_wp2_with fail
  go_loopw [5, 6, 8] (fun om so i wr => ∃ (k a : Nat) (y : Bool) (out : List UInt8), k ≤ n ∧ om = .int .i64 (a : Nat) ∧ so = .bool y ∧ i = .int .i64 (k : Nat) ∧ a ≤ k ∧ Hid (out.length ≤ k) ∧ Hid (Lib.IsBuffer 56 5 w.heap.size w.heap.size (Lib.byteCells out) wr) ∧ Hid (Below w.heap.size w wr) ∧ Hid ((l.take k).foldl (stepD t) (0, true, []) = (a, y, out))) (fun _ _ i _ => n - (intOf i).toNat)
  case atStart => exact ⟨0, 0, true, [], Nat.zero_le _, rfl, rfl, rfl, Nat.le_refl _, Go.Lib.hid (Nat.le_refl _), HFR, Go.Lib.hid ((Below.refl _ _).alloc (Nat.le_refl _) _), Go.Lib.hid rfl⟩
  case round =>
    obtain ⟨k, a, y, out, hk, rfl, rfl, rfl, ha, HO, HB, HW, HF⟩ := hrel
    by_cases hlt : k < n
    · have hks : k < s.size := by omega
      have hkl : k < l.length := by rw [← HN.out]; exact hlt
      obtain ⟨c, hc⟩ : ∃ c, c = l[k] := ⟨_, rfl⟩
      obtain ⟨z, hz⟩ : ∃ z, z = c.toNat := ⟨_, rfl⟩
      have hzs : ∀ h, (s[k]'h).toNat = z := fun h => by
        have h1 := HS.out
        subst h1
        rw [hz, hc]; rfl
      have hcp := HP.out c (by rw [hc]; exact List.getElem_mem _)
      have z9 : ((z : Int) == 9) = false := by
        have : z ≠ 9 := by
          rcases hcp with h | h
          · rw [hz, h]; decide
          · omega
        simp; omega
      have hst := take_fold (stepD t) (0, true, []) l k hkl
      rw [HF.out, ← hc] at hst
      have h32 : z = 32 ↔ c = 32 := by rw [hz]; exact ⟨fun e => UInt8.toNat_inj.1 e, fun e => by rw [e]; rfl⟩
      have h10 : z = 10 ↔ c = 10 := by rw [hz]; exact ⟨fun e => UInt8.toNat_inj.1 e, fun e => by rw [e]; rfl⟩
      have HWR := Go.Lib.hid (HWB.out out c z wr hz HB.out HW.out.size (by have := HO.out; omega))
      by_cases e32 : z = 32
      · have q1 : ((z : Int) == 32) = true := by rw [e32]; rfl
        have e32' := h32.1 e32
        rw [stepD, if_pos e32', ← e32'] at hst
        cases y
        · rw [if_neg (by simp)] at hst
          have HST := Go.Lib.hid hst
          clear hst h32 h10 e32 e32' hcp hz hc hkl
          go_wp2_with fail
          refine HWR.out.mono ?_
          rintro e w2 ⟨rfl, i2, b2⟩
          have I2 := Go.Lib.hid i2
          have B2 := Go.Lib.hid (HW.out.trans b2)
          clear i2 b2
          go_wp2_with fail
          go_roundw
          case rel => exact ⟨k + 1, a, false, out ++ [c], by omega, rfl, rfl, by go_num, by omega, Go.Lib.hid (by have := HO.out; rw [List.length_append, List.length_singleton]; omega), I2, B2, HST⟩
          case measure => simp [intOf]; omega
        · rw [if_pos rfl] at hst
          by_cases hat : a < t
          · rw [if_pos hat] at hst
            have HST := Go.Lib.hid hst
            have q2 : (a : Int) < t := by omega
            clear hst h32 h10 e32 e32' hcp hz hc hkl hat HWR
            go_wp2_with fail
            go_roundw
            case rel => exact ⟨k + 1, a + 1, true, out, by omega, by go_num, rfl, by go_num, by omega, Go.Lib.hid (by have := HO.out; omega), HB, HW, HST⟩
            case measure => simp [intOf]; omega
          · rw [if_neg hat] at hst
            have HST := Go.Lib.hid hst
            have q2 : ¬ (a : Int) < t := by omega
            clear hst h32 h10 e32 e32' hcp hz hc hkl hat
            go_wp2_with fail
            refine HWR.out.mono ?_
            rintro e w2 ⟨rfl, i2, b2⟩
            have I2 := Go.Lib.hid i2
            have B2 := Go.Lib.hid (HW.out.trans b2)
            clear i2 b2
            go_wp2_with fail
            go_roundw
            case rel => exact ⟨k + 1, a, false, out ++ [c], by omega, rfl, rfl, by go_num, by omega, Go.Lib.hid (by have := HO.out; rw [List.length_append, List.length_singleton]; omega), I2, B2, HST⟩
            case measure => simp [intOf]; omega
      have q1 : ((z : Int) == 32) = false := by simp; omega
      rw [stepD, if_neg (fun e => e32 (h32.2 e))] at hst
      by_cases e10 : z = 10
      · have q2 : ((z : Int) == 10) = true := by rw [e10]; rfl
        have e10' := h10.1 e10
        rw [if_pos e10', ← e10'] at hst
        have HST := Go.Lib.hid hst
        clear hst h32 h10 e32 e10 e10' hcp hz hc hkl
        go_wp2_with fail
        refine HWR.out.mono ?_
        rintro e w2 ⟨rfl, i2, b2⟩
        have I2 := Go.Lib.hid i2
        have B2 := Go.Lib.hid (HW.out.trans b2)
        clear i2 b2
        go_wp2_with fail
        go_roundw
        case rel => exact ⟨k + 1, 0, true, out ++ [c], by omega, rfl, rfl, by go_num, by omega, Go.Lib.hid (by have := HO.out; rw [List.length_append, List.length_singleton]; omega), I2, B2, HST⟩
        case measure => simp [intOf]; omega
      have q2 : ((z : Int) == 10) = false := by simp; omega
      rw [if_neg (fun e => e10 (h10.2 e))] at hst
      have HST := Go.Lib.hid hst
      clear hst h32 h10 e32 e10 hcp hz hc hkl
      go_wp2_with fail
      refine HWR.out.mono ?_
      rintro e w2 ⟨rfl, i2, b2⟩
      have I2 := Go.Lib.hid i2
      have B2 := Go.Lib.hid (HW.out.trans b2)
      clear i2 b2
      go_wp2_with fail
      go_roundw
      case rel => exact ⟨k + 1, a, y, out ++ [c], by omega, rfl, rfl, by go_num, by omega, Go.Lib.hid (by have := HO.out; rw [List.length_append, List.length_singleton]; omega), I2, B2, HST⟩
      case measure => simp [intOf]; omega
    · have HE : Hid ((l.foldl (stepD t) (0, true, [])).2.2 = out) := by
        have h1 := HF.out
        have h2 : k = l.length := by rw [← HN.out]; omega
        rw [h2, List.take_length] at h1
        exact Go.Lib.hid (by rw [h1])
      have HSTR := Go.Lib.hid (HST2.out out wr HB.out)
      clear HST2
      go_wp2_with fail
      refine HSTR.out.mono ?_
      rintro e w2 ⟨rfl, nq, rfl⟩
      go_wp2_with fail
      go_returns
      exact ⟨by rw [HE.out]; rfl, below_drewN HW.out nq⟩

/-- What impl.Dedented makes of a plain text. -/
def dedL (l : List UInt8) : List UInt8 := if (l.foldl stepM (0, 0, true)).2.1 = 0 then l else (l.foldl (stepD (l.foldl stepM (0, 0, true)).2.1) (0, true, [])).2.2
theorem stepM_le (l : List UInt8) : ∀ (x m : Nat) (y : Bool), (l.foldl stepM (x, m, y)).1 ≤ x + l.length ∧ (l.foldl stepM (x, m, y)).2.1 ≤ max m (x + l.length) := by
  induction l with
  | nil => intro x m y; simp; omega
  | cons c t ih =>
    intro x m y
    rw [List.foldl_cons, List.length_cons]
    have h : ∃ a b d, stepM (x, m, y) c = (a, b, d) ∧ a ≤ x + 1 ∧ b ≤ max m x := by
      unfold stepM
      split
      · split
        · exact ⟨_, _, _, rfl, by (try dsimp only); omega, by (try dsimp only); omega⟩
        · exact ⟨_, _, _, rfl, by (try dsimp only); omega, by (try dsimp only); omega⟩
      · split
        · exact ⟨_, _, _, rfl, by (try dsimp only); omega, by (try dsimp only); omega⟩
        · split
          · exact ⟨_, _, _, rfl, by (try dsimp only); omega, by (try dsimp only); omega⟩
          · exact ⟨_, _, _, rfl, by (try dsimp only); omega, by (try dsimp only); omega⟩
    obtain ⟨a, b, d, e, h1, h2⟩ := h
    rw [e]
    have := ih a b d
    omega
set_option maxHeartbeats 800000 in
theorem dedented_any (l : List UInt8) (w : World) (hp : Pla l) (hl : l.length ≤ 900000) : Calls Tryd.prog 13 #[.string (tx l)] w fun e w' => e = .returned (.string (tx (dedL l))) ∧ Below w.heap.size w w' := by
  have hs : Calls Tryd.prog 31 #[.string (tx l)] w fun e w' => e = .returned (.string (tx (dedL l))) ∧ Below w.heap.size w w' := by
    have HM := Go.Lib.hid (minIndent_any l w hp hl)
    have hle := (stepM_le l 0 0 true).2
    obtain ⟨m, hm⟩ : ∃ m, m = (l.foldl stepM (0, 0, true)).2.1 := ⟨_, rfl⟩
    rw [← hm] at HM hle
    have hm2 : m ≤ 900000 := by omega
    have hd : dedL l = if m = 0 then l else (l.foldl (stepD m) (0, true, [])).2.2 := by rw [hm]; rfl
    have HD := Go.Lib.hid (dedent_any l m w hp hl hm2)
    clear hm hle hp hl
    by_cases h0 : m = 0
    · rw [if_pos h0] at hd
      rw [hd]
      subst h0
      clear hd HD
      obtain ⟨s, hs⟩ : ∃ s, s = tx l := ⟨_, rfl⟩
      rw [← hs] at HM ⊢
      clear hs
      go_enter Tryd.func31, Tryd.ntmps31
      go_wp2_with fail
      refine HM.out.mono ?_
      rintro e w2 ⟨rfl, rfl⟩
      go_wp2_with fail
      go_returns
      exact ⟨rfl, Below.refl _ _⟩
    · rw [if_neg h0] at hd
      rw [hd]
      have q : ((m : Int) == 0) = false := by simp; omega
      obtain ⟨r, hr⟩ : ∃ r, r = tx (l.foldl (stepD m) (0, true, [])).2.2 := ⟨_, rfl⟩
      obtain ⟨s, hs⟩ : ∃ s, s = tx l := ⟨_, rfl⟩
      rw [← hs] at HM HD ⊢
      rw [← hr] at HD ⊢
      clear hd hr hs h0
      go_enter Tryd.func31, Tryd.ntmps31
      go_wp2_with fail
      refine HM.out.mono ?_
      rintro e w2 ⟨rfl, rfl⟩
      go_wp2_with fail
      refine HD.out.mono ?_
      rintro e w3 ⟨rfl, b3⟩
      have B3 := Go.Lib.hid b3
      clear b3
      go_wp2_with fail
      go_returns
      exact ⟨rfl, B3.out⟩
  have HS := Go.Lib.hid hs
  clear hs hp hl
  go_enter Tryd.func13, Tryd.ntmps13
  go_wp2_with fail
  refine HS.out.mono ?_
  rintro e w2 ⟨rfl, b2⟩
  have B2 := Go.Lib.hid b2
  clear b2
  go_wp2_with fail
  go_returns
  exact ⟨rfl, B2.out⟩
end Go.Proofs.YtbibokkclejapaaDoor
