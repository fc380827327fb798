/- laws.FnKeyPuts. -/
import Derived.Test.YtdggmnpggphdcaaDoorOneLaw2
import Derived.Test.YtdggmnpggphdcaaDoorPutsTs
namespace Go.Proofs.YtdggmnpggphdcaaDoor
open Go.RowKit
set_option linter.unusedVariables false
set_option linter.unusedSimpArgs false

set_option maxRecDepth 100000 in
set_option maxHeartbeats 2000000 in
theorem do_tr (l : List Int) (k : Nat) (kept : List Int) (s : ByteArray) (n : Int) (f b : Bool) (l' : List Int) (k' : Nat) (op : Bool) (hT : ∀ eb w, Ed w eb l k kept false false → Calls Tryd.prog 27 #[.pointer (some ⟨eb, 0, none⟩)] w (TrPost eb l' k' kept op w)) : DoOk ⟨18, s, n, f, b⟩ l k kept (-1) l' k' kept false op := fun eb w h => by
  have H1 : Hid (Ed (w.alloc (.cells #[.int .i64 18, .string s, .int .i64 n, .bool f, .bool b] 27)) eb l k kept false false) := h.same ((Below.refl _ _).alloc (Nat.le_refl _) _)
  have K1 : Hid (EdK eb w (w.alloc (.cells #[.int .i64 18, .string s, .int .i64 n, .bool f, .bool b] 27))) := (EdK.refl _ _).alloc _
  obtain ⟨A, cap, B, cap2, hv⟩ := H1.out
  have c0 := hv.c0
  have c3 := hv.c3
  have c4 := hv.c4
  have HM : Hid (∀ W, Ed W eb l k kept false false → Calls Tryd.prog 21 #[.pointer (some ⟨eb, 0, none⟩), .agg #[.int .i64 18, .string s, .int .i64 n, .bool f, .bool b]] W (DoPost eb (-1) l' k' kept false op W)) := fun W hW => by
    have G1 : Hid (Ed (W.alloc (.cells #[.int .i64 18, .string s, .int .i64 n, .bool f, .bool b] 27)) eb l k kept false false) := hW.same ((Below.refl _ _).alloc (Nat.le_refl _) _)
    have L1 : Hid (EdK eb W (W.alloc (.cells #[.int .i64 18, .string s, .int .i64 n, .bool f, .bool b] 27))) := (EdK.refl _ _).alloc _
    obtain ⟨A, cap, B, cap2, hv⟩ := G1.out
    have c0 := hv.c0
    have HT := Go.Lib.hid (hT eb _ G1.out)
    clear hv hW h H1 K1 hT
    go_enter Tryd.func21, Tryd.ntmps21
    go_wp2_with fail
    refine HT.out.mono ?_
    rintro e w1 ⟨rfl, h1, o1⟩
    have HE := Go.Lib.hid h1
    have O1 : Hid (EdK eb W w1) := L1.out.trans o1
    clear h1 o1
    go_wp2_with fail
    go_returns
    exact ⟨rfl, HE.out, O1.out⟩
  clear h hv hT
  unfold Ky.val
  go_enter Tryd.func9, Tryd.ntmps9
  go_wp2_with fail
  refine (HM.out _ H1.out).mono ?_
  rintro e w1 ⟨rfl, h1, o1⟩
  have HE := Go.Lib.hid h1
  have O1 : Hid (EdK eb w w1) := K1.out.trans o1
  clear h1 o1
  go_wp2_with fail
  go_returns
  exact ⟨rfl, HE.out, O1.out⟩

theorem agreed_write (l : List Int) (k : Nat) (s : ByteArray) (hs : s.size ≤ 100) (hk : k ≤ l.length) (hl : l.length ≤ 1000) : Agreed2 ⟨1, s, 0, false, false⟩ l k := by
  have hr := runes_length s
  have hkey := key_write l k [] hk (by omega) s (by omega) 0 false false
  rw [← List.append_assoc] at hkey
  exact .inr (.inr ⟨_, _, _, _, _, do_write l k [] s 0 false false hk (by omega) (by omega), hkey, by simp; omega⟩)

theorem agreed_replace (l : List Int) (k : Nat) (c : Int) (hk : k ≤ l.length) (hl : l.length ≤ 1000) (hc0 : 0 ≤ c) (hc1 : c ≤ 1114111) : Agreed2 ⟨8, ⟨#[]⟩, c, false, false⟩ l k := by
  by_cases e : k < l.length
  · exact .inr (.inr ⟨_, _, _, _, _, do_replace l k [] ⟨#[]⟩ c false false e (by omega) hc0 hc1, key_replace l k [] hk (by omega) e c hc0 hc1 ⟨#[]⟩ false false, by simp; omega⟩)
  · have e : k = l.length := by omega
    exact .inr (.inl ⟨_, _, _, _, do_replace_bad l k [] ⟨#[]⟩ c false false e (by omega), key_replace_bad l k [] e (by omega) ⟨#[]⟩ c hc0 hc1 false false⟩)

theorem agreed_transpose (l : List Int) (k : Nat) (hk : k ≤ l.length) (hl : l.length ≤ 1000) : Agreed2 ⟨18, ⟨#[]⟩, 0, false, false⟩ l k := by
  by_cases e2 : 2 ≤ l.length
  · exact .inr (.inr ⟨_, _, _, _, _, do_tr l k [] ⟨#[]⟩ 0 false false _ _ _ (fun eb w h => tr_two eb l k _ [] w h hk e2 (by omega) rfl), key_transpose l k [] hk (by omega) e2 _ rfl ⟨#[]⟩ 0 false false, by rw [swp_length]; omega⟩)
  · by_cases e : l.length = 1 ∧ k = 0
    · obtain ⟨e1, rfl⟩ := e
      exact .inr (.inr ⟨_, _, _, _, _, do_tr l 0 [] ⟨#[]⟩ 0 false false _ _ _ (fun eb w h => tr_one eb l [] w h e1), key_transpose_one l 0 [] hk (by omega) rfl e1 ⟨#[]⟩ 0 false false, by omega⟩)
    · exact .inl ⟨_, _, _, _, _, do_tr l k [] ⟨#[]⟩ 0 false false _ _ _ (fun eb w h => tr_open eb l k [] w h (by omega))⟩

namespace fnKeyPuts
set_option maxRecDepth 100000 in
set_option maxHeartbeats 2000000 in
theorem walk (s : ByteArray) (a : Int) (t : ByteArray) (c : Int) (w : World) (_hs : s.size ≤ maxLen) (_hat : (Lit.int .i64 a).wf = true) (_ht : t.size ≤ maxLen) (hc : (Lit.int .u8 c).wf = true) {X : Prop} (_hL : X) :
    Calls Tryd.prog 3 #[.agg #[.string s, .int .i64 a], .string t, .int .u8 c] w fun e w' => e = .returned (.bool true) ∧ Below w.heap.size w w' := by
  have hcc := Go.bounds_u8 hc
  obtain ⟨hc0, hc1⟩ := hcc
  clear hc
  have hwc : IntKind.i64.wrap c = c := IntWalk.i64_in _ (by omega)
  go_enter Tryd.func3, Tryd.ntmps3
  go_wp2_with fail
  refine (fits11_any s a _).mono ?_
  rintro e w1 ⟨r, rfl, hr, b1⟩
  have e0 := (b1.cell (p := ⟨w.heap.size, 0, none⟩) (by simp)).trans (show _ = some (Value.string s) by simp [go_sem])
  have e1 := (b1.cell (p := ⟨w.heap.size, 1, none⟩) (by simp)).trans (show _ = some (Value.int .i64 a) by simp [go_sem])
  have B1 : Hid (Below w.heap.size w w1) := ((Below.refl _ _).alloc (Nat.le_refl _) _).trans (b1.mono (by simp))
  have hz1 : w.heap.size < w1.heap.size := by have := b1.size; simp at this; omega
  have HR := Go.Lib.hid hr
  clear b1 hr
  cases r
  · go_wp2_with fail
    go_returns
    exact ⟨rfl, B1.out⟩
  have hsz : s.size ≤ 2147483647 := HR.out (by trivial)
  clear HR
  by_cases htz : (2147483647 : Int) < t.size
  · go_wp2_with fail
    go_returns
    exact ⟨rfl, B1.out⟩
  have htn : t.size ≤ 2147483647 := by omega
  go_wp2_with fail
  refine (one9_two s a ⟨1, t, 0, false, false⟩ w1 hsz htn ?_).mono ?_
  · rintro i rfl hl hk
    have hll := runes_ascii_length s hl.1
    have h3 := hl.2.1
    have h4 := hl.2.2.2
    exact agreed_write (runes s) i t hk.2.1 (by omega) (by omega)
  rintro e w2 ⟨rfl, b2⟩
  have B2 : Hid (Below w.heap.size w w2) := B1.out.trans (b2.mono B1.out.size)
  have f0 := (b2.cell (p := ⟨w.heap.size, 0, none⟩) hz1).trans e0
  have f1 := (b2.cell (p := ⟨w.heap.size, 1, none⟩) hz1).trans e1
  have hz2 : w.heap.size < w2.heap.size := by have := b2.size; omega
  clear b2 e0 e1
  go_wp2_with fail
  refine (one9_two s a ⟨8, ⟨#[]⟩, c, false, false⟩ w2 hsz (Nat.zero_le _) ?_).mono ?_
  · rintro i rfl hl hk
    have hll := runes_ascii_length s hl.1
    have h3 := hl.2.1
    have h4 := hl.2.2.2
    exact agreed_replace (runes s) i c (by omega) (by omega) hc0 (by omega)
  rintro e w3 ⟨rfl, b3⟩
  have B3 : Hid (Below w.heap.size w w3) := B2.out.trans (b3.mono B2.out.size)
  have g0 := (b3.cell (p := ⟨w.heap.size, 0, none⟩) hz2).trans f0
  have g1 := (b3.cell (p := ⟨w.heap.size, 1, none⟩) hz2).trans f1
  clear b3 f0 f1
  go_wp2_with fail
  refine (one9_two s a ⟨18, ⟨#[]⟩, 0, false, false⟩ w3 hsz (Nat.zero_le _) ?_).mono ?_
  · rintro i rfl hl hk
    have hll := runes_ascii_length s hl.1
    have h3 := hl.2.1
    have h4 := hl.2.2.2
    exact agreed_transpose (runes s) i (by omega) (by omega)
  rintro e w4 ⟨rfl, b4⟩
  have B4 : Hid (Below w.heap.size w w4) := B3.out.trans (b4.mono B3.out.size)
  clear b4
  go_wp2_with fail
  go_returns
  exact ⟨rfl, B4.out⟩
end fnKeyPuts
end Go.Proofs.YtdggmnpggphdcaaDoor
