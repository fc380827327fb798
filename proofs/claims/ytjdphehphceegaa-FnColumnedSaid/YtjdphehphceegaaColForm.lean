/- goprompt.FormatTexts, impl.Columned. -/
import Derived.Test.YtjdphehphceegaaColFmtB
import Derived.Test.YtjdphehphceegaaStrsBase
import Derived.Maps.AppendAt
import Derived.Deep.AppendLies
namespace Go.Proofs.Ytjdphehphceegaa
open Go.RowKit
set_option linter.unusedVariables false
set_option linter.unusedSimpArgs false

def fmtR (ss : List ByteArray) (most : Nat) (p q : ByteArray) (j : Nat) : ByteArray :=
  if mx (txt ss) ss.length = 0 ∨ p.size + q.size + 3 ≥ most then ⟨#[]⟩ else cell1 p q (clean (txt ss j)) (wid p.size q.size most (mx (txt ss) ss.length))
def fmtZ (ss : List ByteArray) (most : Nat) (p q : ByteArray) : Nat :=
  if mx (txt ss) ss.length = 0 ∨ p.size + q.size + 3 ≥ most then 0 else p.size + wid p.size q.size most (mx (txt ss) ss.length) + q.size

theorem own_strfn {w : World} {base n : Nat} {v : Value} {f : Nat → ByteArray} (h : w.ownsRow base 9 1 v n ((List.range n).map fun j => Value.string (f j))) (hn : 0 < n) :
    ∃ g cap, v = .slice (some ⟨g, 0, none⟩) n cap ∧ base ≤ g ∧ StrFn w g 0 n f := by
  obtain ⟨hl, h⟩ := h
  rcases h with ⟨_, e⟩ | ⟨g, cap, cur, rfl, hg, hh, hn1, hcm, hcs, htk⟩
  · omega
  have hgl : g < w.heap.size := by
    by_cases hl : g < w.heap.size
    · exact hl
    · have : w.heap[g]? = none := by simp; omega
      rw [this] at hh; cases hh
  refine ⟨g, cap, rfl, hg, hgl, fun j hj => ⟨?_, by simp [World.frozen?, hh]⟩⟩
  have h1 : (List.map (fun j => Value.string (f j)) (List.range n))[j]? = some (.string (f j)) := by simp [hj]
  rw [← htk, List.getElem?_take_of_lt (by omega)] at h1
  simpa [World.cell?, hh] using h1

set_option maxRecDepth 100000 in
theorem form_any (a : Option Addr) (cap most : Nat) (ss : List ByteArray) (p q : ByteArray) (w : World) (h : IsStrs w a ss) (hn : ss.length ≤ 12) (hX : ∀ j, j < ss.length → (txt ss j).size ≤ 100 ∧ Prt (clean (txt ss j)))
    (hp : Prt p) (hq : Prt q) (hps : p.size + q.size ≤ 20) (hm : most ≤ 100) :
    Calls Try.prog 11 #[.slice a ss.length cap, .int .i64 (most : Nat), .string p, .string q] w (FmtPost ss.length (fmtR ss most p q) (fmtZ ss most p q) w.heap.size w) := by
  have HC := Go.Lib.hid fun (ob off cap' : Nat) (w' : World) (hh : StrFn w' ob off ss.length (txt ss)) (hb : w.heap.size ≤ ob) => format_any ob off ss.length cap' most (txt ss) p q w.heap.size w' hh hb hn hX hp hq hps hm
  have HH := Go.Lib.hid h
  obtain ⟨R, hR⟩ : ∃ R, R = fmtR ss most p q := ⟨_, rfl⟩
  obtain ⟨Z, hZ⟩ : ∃ Z, Z = fmtZ ss most p q := ⟨_, rfl⟩
  have HC2 : Hid (∀ (ob off cap' : Nat) (w' : World) (hh : StrFn w' ob off ss.length (txt ss)) (hb : w.heap.size ≤ ob), Calls Try.prog 13 #[.slice (some ⟨ob, off, none⟩) ss.length cap', .int .i64 (most : Nat), .string p, .string q] w' (FmtPost ss.length R Z w.heap.size w')) := by rw [hR, hZ]; exact HC.out
  rw [← hR, ← hZ]
  obtain ⟨n, hn'⟩ : ∃ n, n = ss.length := ⟨_, rfl⟩
  rw [← hn'] at HC2 hn ⊢
  have HNN := Go.Lib.hid hn'
  clear hR hZ hX h HC hn' hp hq hps
  by_cases h0 : n = 0
  · subst h0
    rcases a with _ | ad
    · go_enter Try.func11, Try.ntmps11
      go_wp2_with fail
      refine (HC2.out w.heap.size 0 0 _ ⟨by simp, fun j hj => absurd hj (Nat.not_lt_zero j)⟩ (Nat.le_refl _)).mono ?_
      rintro e w1 ⟨nb, rfl, hnb, hrow, hb⟩
      have HW := Go.Lib.hid (((Below.refl w.heap.size w).alloc (Nat.le_refl _) (.cells #[] 9)).trans hb)
      have HR := Go.Lib.hid hrow
      clear hb hrow
      go_wp2_with fail
      go_returns
      exact ⟨nb, rfl, hnb, HR.out, HW.out⟩
    · go_enter Try.func11, Try.ntmps11
      go_wp2_with fail
      refine (HC2.out w.heap.size 0 0 _ ⟨by simp, fun j hj => absurd hj (Nat.not_lt_zero j)⟩ (Nat.le_refl _)).mono ?_
      rintro e w1 ⟨nb, rfl, hnb, hrow, hb⟩
      have HW := Go.Lib.hid (((Below.refl w.heap.size w).alloc (Nat.le_refl _) (.cells #[] 9)).trans hb)
      have HR := Go.Lib.hid hrow
      clear hb hrow
      go_wp2_with fail
      go_returns
      exact ⟨nb, rfl, hnb, HR.out, HW.out⟩
  · rcases HH.out with e | ⟨b, off, rfl, hbl, hc⟩
    · have := HNN.out; rw [e] at this; simp at this; omega
    have HCL := Go.Lib.hid hc
    clear hc
    obtain ⟨ib, hib, hz0, hz1, hz2⟩ := info_parts (show (Try.prog.info? 9).map (fun i => (i.zero, i.size, i.bytes)) = some (some (.string ⟨#[]⟩), 1, 16) by kernel_rfl)
    go_enter Try.func11, Try.ntmps11
    go_wp2_with (at_builtin; refine wpList_append_own_at _ rfl _ _ 22 rfl w.heap.size 9 ib (.string ⟨#[]⟩) 1 16 Try.underlying22 hib hz0 hz1 hz2 rfl (by decide) _ 0 [] rfl ?c4 ⟨b, off, none⟩ n cap ((List.range n).map fun j => .string (txt ss j)) rfl (by simp) ?c0 ?c5 ?c1 ?c2 ?c3 ?_)
    case c4 => exact ⟨by simp, .inr ⟨w.heap.size, 0, #[], rfl, Nat.le_refl _, heap_alloc_new w _, Nat.le_refl _, by unfold maxLen; omega, rfl, rfl⟩⟩
    case c0 =>
      intro j u hj
      have hjn : j < n := by
        by_cases e : j < n
        · exact e
        · rw [List.getElem?_eq_none (by simp; omega)] at hj; cases hj
      obtain rfl : Value.string (txt ss j) = u := by simpa [hjn] using hj
      have hb : Below w.heap.size w (w.alloc (.cells #[] 9)) := (Below.refl _ w).alloc (Nat.le_refl _) _
      rw [show (⟨b, off, none⟩ : Addr).add j = ⟨b, off + j, none⟩ by simp [Addr.add]]
      exact (hb.cell (p := ⟨b, off + j, none⟩) hbl).trans (HCL.out j (by rw [← HNN.out]; exact hjn))
    case c5 =>
      intro u hu
      obtain ⟨j, _, rfl⟩ := List.mem_map.mp hu
      rfl
    case c1 => unfold maxLen; omega
    case c2 => omega
    case c3 => simp
    intro v2 w2 hown2 hgrow2 _ hv2
    have hown3 : w2.ownsRow w.heap.size 9 1 v2 n ((List.range n).map fun j => .string (txt ss j)) := by simpa using hown2
    obtain ⟨g, cap2, rfl, hg, hsf⟩ := own_strfn hown3 (by omega)
    have HS := Go.Lib.hid hsf
    have HB : Hid (Below w.heap.size w w2) := ((Below.refl _ w).alloc (Nat.le_refl _) (.cells #[] 9)).grown hgrow2 (by simp) (fun j hj => by
      have e : some w.heap.size = some j := hj
      cases e; exact Nat.le_refl _)
    have HZ2 : Hid (w.heap.size ≤ w2.heap.size) := HB.out.size
    clear hown2 hown3 hgrow2 hv2 hsf
    go_wp2_with fail
    refine (HC2.out g 0 cap2 _ HS.out hg).mono ?_
    rintro e w1 ⟨nb, rfl, hnb, hrow, hb⟩
    have HW := Go.Lib.hid (HB.out.trans hb)
    have HR := Go.Lib.hid hrow
    clear hb hrow
    go_wp2_with fail
    go_returns
    exact ⟨nb, rfl, hnb, HR.out, HW.out⟩
end Go.Proofs.Ytjdphehphceegaa
