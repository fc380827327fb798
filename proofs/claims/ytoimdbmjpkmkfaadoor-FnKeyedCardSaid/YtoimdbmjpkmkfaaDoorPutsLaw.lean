/- laws.FnKeyPuts. -/
import Derived.Test.YtoimdbmjpkmkfaaDoorOneLaw2
import Derived.Test.YtoimdbmjpkmkfaaDoorPutsTs
namespace Go.Proofs.YtoimdbmjpkmkfaaDoor
open Go.RowKit
set_option linter.unusedVariables false
set_option linter.unusedSimpArgs false

set_option maxRecDepth 100000 in
set_option maxHeartbeats 2000000 in
theorem do_tr (l : List Int) (k : Nat) (kept : List Int) (s : ByteArray) (n : Int) (f b : Bool) (l' : List Int) (k' : Nat) (op : Bool) (hT : ∀ eb w, Ed w eb l k kept false false → Calls Tryd.prog 30 #[.pointer (some ⟨eb, 0, none⟩)] w (TrPost eb l' k' kept op w)) : DoOk ⟨18, s, n, f, b⟩ l k kept (-1) l' k' kept false op := fun eb w h => by
  have H1 : Hid (Ed (w.alloc (.cells #[.int .i64 18, .string s, .int .i64 n, .bool f, .bool b] 30)) eb l k kept false false) := h.same ((Below.refl _ _).alloc (Nat.le_refl _) _)
  have K1 : Hid (EdK eb w (w.alloc (.cells #[.int .i64 18, .string s, .int .i64 n, .bool f, .bool b] 30))) := (EdK.refl _ _).alloc _
  obtain ⟨A, cap, B, cap2, hv⟩ := H1.out
  have c0 := hv.c0
  have c3 := hv.c3
  have c4 := hv.c4
  have HM : Hid (∀ W, Ed W eb l k kept false false → Calls Tryd.prog 20 #[.pointer (some ⟨eb, 0, none⟩), .agg #[.int .i64 18, .string s, .int .i64 n, .bool f, .bool b]] W (DoPost eb (-1) l' k' kept false op W)) := fun W hW => by
    have G1 : Hid (Ed (W.alloc (.cells #[.int .i64 18, .string s, .int .i64 n, .bool f, .bool b] 30)) eb l k kept false false) := hW.same ((Below.refl _ _).alloc (Nat.le_refl _) _)
    have L1 : Hid (EdK eb W (W.alloc (.cells #[.int .i64 18, .string s, .int .i64 n, .bool f, .bool b] 30))) := (EdK.refl _ _).alloc _
    obtain ⟨A, cap, B, cap2, hv⟩ := G1.out
    have c0 := hv.c0
    have HT := Go.Lib.hid (hT eb _ G1.out)
    clear hv hW h H1 K1 hT
    go_enter Tryd.func20, Tryd.ntmps20
    go_wp2_with fail
    refine HT.out.mono ?_
    rintro e w1 ⟨rfl, h1, o1⟩
    have HE := Go.Lib.hid h1
    have O1 : Hid (EdK eb W w1) := L1.out.trans o1
    clear h1 o1
    go_wp2_with fail
    go_returns
    exact ⟨rfl, HE.out, O1.out⟩
  clear h hv hT
  unfold Ky.val
  go_enter Tryd.func7, Tryd.ntmps7
  go_wp2_with fail
  refine (HM.out _ H1.out).mono ?_
  rintro e w1 ⟨rfl, h1, o1⟩
  have HE := Go.Lib.hid h1
  have O1 : Hid (EdK eb w w1) := K1.out.trans o1
  clear h1 o1
  go_wp2_with fail
  go_returns
  exact ⟨rfl, HE.out, O1.out⟩

theorem agreed_write (l : List Int) (k : Nat) (s : ByteArray) (hs : s.size ≤ 100) (hk : k ≤ l.length) (hl : l.length ≤ 1000) : Agreed2 ⟨1, s, 0, false, false⟩ l k := by
  have hr := runes_length s
  have hkey := key_write l k [] hk (by omega) s (by omega) 0 false false
  rw [← List.append_assoc] at hkey
  exact .inr (.inr ⟨_, _, _, _, _, do_write l k [] s 0 false false hk (by omega) (by omega), hkey, by simp; omega⟩)

theorem agreed_replace (l : List Int) (k : Nat) (c : Int) (hk : k ≤ l.length) (hl : l.length ≤ 1000) (hc0 : 0 ≤ c) (hc1 : c ≤ 1114111) : Agreed2 ⟨8, ⟨#[]⟩, c, false, false⟩ l k := by
  by_cases e : k < l.length
  · exact .inr (.inr ⟨_, _, _, _, _, do_replace l k [] ⟨#[]⟩ c false false e (by omega) hc0 hc1, key_replace l k [] hk (by omega) e c hc0 hc1 ⟨#[]⟩ false false, by simp; omega⟩)
  · have e : k = l.length := by omega
    exact .inr (.inl ⟨_, _, _, _, do_replace_bad l k [] ⟨#[]⟩ c false false e (by omega), key_replace_bad l k [] e (by omega) ⟨#[]⟩ c hc0 hc1 false false⟩)

theorem agreed_transpose (l : List Int) (k : Nat) (hk : k ≤ l.length) (hl : l.length ≤ 1000) : Agreed2 ⟨18, ⟨#[]⟩, 0, false, false⟩ l k := by
  by_cases e2 : 2 ≤ l.length
  · exact .inr (.inr ⟨_, _, _, _, _, do_tr l k [] ⟨#[]⟩ 0 false false _ _ _ (fun eb w h => tr_two eb l k _ [] w h hk e2 (by omega) rfl), key_transpose l k [] hk (by omega) e2 _ rfl ⟨#[]⟩ 0 false false, by rw [swp_length]; omega⟩)
  · by_cases e : l.length = 1 ∧ k = 0
    · obtain ⟨e1, rfl⟩ := e
      exact .inr (.inr ⟨_, _, _, _, _, do_tr l 0 [] ⟨#[]⟩ 0 false false _ _ _ (fun eb w h => tr_one eb l [] w h e1), key_transpose_one l 0 [] hk (by omega) rfl e1 ⟨#[]⟩ 0 false false, by omega⟩)
    · exact .inl ⟨_, _, _, _, _, do_tr l k [] ⟨#[]⟩ 0 false false _ _ _ (fun eb w h => tr_open eb l k [] w h (by omega))⟩

namespace fnKeyPuts
end fnKeyPuts
end Go.Proofs.YtoimdbmjpkmkfaaDoor
