/- A step of any kind: what the reference says of it, and the package does; a script's first part, told of an editor. -/
import Derived.Test.YtoimdbmjpkmkfaaDoorKeyTable2
namespace Go.Proofs.YtoimdbmjpkmkfaaDoor
open Go.RowKit
set_option linter.unusedVariables false
set_option linter.unusedSimpArgs false

theorem ag_all (e : Ky) (l : List Int) (k : Nat) (kept : List Int) (hk : k ≤ l.length) (hl : l.length ≤ 1000) (hkl : kept.length ≤ 1000) (hy : Keyd e) (h1 : 1 ≤ e.op) (h2 : e.op ≤ 21) : Agreed3 e l k kept := by
  obtain ⟨op, s, n, f, b⟩ := e
  obtain ⟨_, hs, hn⟩ := hy
  dsimp only at h1 h2 hs hn
  have hc : op = 1 ∨ op = 2 ∨ op = 3 ∨ op = 4 ∨ op = 5 ∨ op = 6 ∨ op = 7 ∨ op = 8 ∨ op = 9 ∨ op = 10 ∨ op = 11 ∨ op = 12 ∨ op = 13 ∨ op = 14 ∨ op = 15 ∨ op = 16 ∨ op = 17 ∨ op = 18 ∨ op = 19 ∨ op = 20 ∨ op = 21 := by omega
  rcases hc with rfl | rfl | rfl | rfl | rfl | rfl | rfl | rfl | rfl | rfl | rfl | rfl | rfl | rfl | rfl | rfl | rfl | rfl | rfl | rfl | rfl
  · exact ag_write l k kept s n f b hk hl hs hkl
  · exact ag_forward l k kept s n f b hk hl hkl
  · exact ag_backward l k kept s n f b hk hl hkl
  · exact ag_start l k kept s n f b hk hl hkl
  · exact ag_end l k kept s n f b hk hl hkl
  · exact ag_delete l k kept s n f b hk hl hkl
  · exact ag_backspace l k kept s n f b hk hl hkl
  · exact ag_replace l k kept s n f b hk hl hkl (by have := (hn (.inl rfl)).1; omega) (by have := (hn (.inl rfl)).2; omega)
  · exact ag_erase l k kept s n f b hk hl hkl
  · exact ag_prevword l k kept s n f b hk hl hkl
  · exact ag_nextword l k kept s n f b hk hl hkl
  · exact ag_endword l k kept s n f b hk hl hkl
  · exact ag_cutword l k kept s n f b hk hl hkl
  · exact ag_backword l k kept s n f b hk hl hkl
  · exact ag_kill l k kept s n f b hk hl hkl
  · exact ag_killfront l k kept s n f b hk hl hkl
  · exact ag_yank l k kept s n f b hk hl hkl
  · exact ag_transpose l k kept s n f b hk hl hkl
  · exact ag_move l k kept s n f b hk hl hkl (by have := (hn (.inr rfl)).1; omega) (by have := (hn (.inr rfl)).2; omega) (mvK_le _ _ _ _ _ hk)
  · exact ag_set l k kept s n f b hk hl hs hkl
  · exact ag_reset l k kept s n f b hk hl hkl

set_option maxRecDepth 100000 in
set_option maxHeartbeats 1000000 in
/-- Once a step has failed none does anything. -/
theorem do_bad (l : List Int) (k : Nat) (kept : List Int) (e : Ky) (eb : Nat) (w : World) (h : Ed w eb l k kept true false) : Calls Tryd.prog 7 #[.pointer (some ⟨eb, 0, none⟩), e.val] w (DoPost eb (-1) l k kept true false w) := by
  obtain ⟨op, s, n, f, b⟩ := e
  have H1 : Hid (Ed (w.alloc (.cells #[.int .i64 op, .string s, .int .i64 n, .bool f, .bool b] 30)) eb l k kept true false) := h.same ((Below.refl _ _).alloc (Nat.le_refl _) _)
  have K1 : Hid (EdK eb w (w.alloc (.cells #[.int .i64 op, .string s, .int .i64 n, .bool f, .bool b] 30))) := (EdK.refl _ _).alloc _
  obtain ⟨A, cap, B, cap2, hv⟩ := H1.out
  have c3 := hv.c3
  have z1 := hv.sz
  clear h hv
  unfold Ky.val
  go_enter Tryd.func7, Tryd.ntmps7
  go_wp2_with fail
  go_returns
  exact ⟨rfl, H1.out, K1.out⟩

/-- What an editor holds behind the first i steps of a script, and what these told. -/
structure Hist (es : List Ky) (i : Nat) (us : List Int) (l : List Int) (k : Nat) (kept : List Int) (bad : Bool) : Prop where
  len : us.length = i
  le : k ≤ l.length
  lk : kept.length ≤ 1000
  good : bad = false → Chain (es.take i) [] 0 [] us l k kept
  failed : bad = true → ∃ (p : Nat) (hp : p < es.length) (ts l1 : List Int) (k1 : Nat) (q1 : List Int), Chain (es.take p) [] 0 [] ts l1 k1 q1 ∧ KeyBad (es[p]'hp) l1 k1 q1

theorem Hist.start (es : List Ky) : Hist es 0 [] [] 0 [] false := ⟨rfl, Nat.le_refl _, by simp, fun _ => .nil _ _ _, fun h => by cases h⟩

theorem Hist.step {es : List Ky} {i : Nat} {us l kept : List Int} {k : Nat} {bad : Bool} (h : Hist es i us l k kept bad) (x : Ky) (hx : es[i]? = some x) (hl : l.length ≤ 300) (hy : Keyd x) (h1 : 1 ≤ x.op) (h2 : x.op ≤ 21) :
    ∃ (m : Int) (l' : List Int) (k' : Nat) (kept' : List Int) (bad' op' : Bool), (∀ (eb : Nat) (w : World), Ed w eb l k kept bad false → Calls Tryd.prog 7 #[.pointer (some ⟨eb, 0, none⟩), x.val] w (DoPost eb m l' k' kept' bad' op' w)) ∧ (op' = false → Hist es (i + 1) (us ++ [m]) l' k' kept' bad') := by
  have hi : i < es.length := (List.getElem?_eq_some_iff.1 hx).1
  have hxe : es[i]'hi = x := (List.getElem?_eq_some_iff.1 hx).2
  cases bad
  · have ht : es.take (i + 1) = es.take i ++ [x] := by rw [List.take_add_one, hx]; rfl
    rcases ag_all x l k kept h.le (by omega) h.lk hy h1 h2 with ⟨m, l', k', kept', bad', hdo⟩ | ⟨hdo, hbad⟩ | ⟨m, l', k', kept', hdo, hkey, hk', hq⟩
    · exact ⟨m, l', k', kept', bad', true, hdo, fun h => by cases h⟩
    · exact ⟨-1, l, k, kept, true, false, hdo, fun _ => ⟨by simp [h.len], h.le, h.lk, (fun h => by cases h), fun _ => ⟨i, hi, us, l, k, kept, h.good rfl, by rw [hxe]; exact hbad⟩⟩⟩
    · exact ⟨m, l', k', kept', false, false, hdo, fun _ => ⟨by simp [h.len], hk', hq, fun _ => by rw [ht]; exact (h.good rfl).append (.cons hkey (.nil _ _ _)), fun h => by cases h⟩⟩
  · exact ⟨-1, l, k, kept, true, false, fun eb w hE => do_bad l k kept _ eb w hE, fun _ => ⟨by simp [h.len], h.le, h.lk, (fun h => by cases h), h.failed⟩⟩

theorem bytes_ge (l : List Int) : l.length ≤ (runesBytes l).size := by
  have e : (runesBytes l).data.toList.length = (runesBytes l).size := by simp
  rw [← e, runesBytes_list]
  clear e
  induction l with
  | nil => simp [enc_nil]
  | cons z zs ih =>
    have := (Lib.encodeRuneZ_length z).1
    have e := encodeRune_ne z
    have e2 : 0 < (Lib.encodeRune z).length := List.length_pos_iff.2 e
    rw [enc_cons, List.length_append, List.length_cons]
    omega
end Go.Proofs.YtoimdbmjpkmkfaaDoor
