/- A completer in memory; its getters; readline.doInternal at a line of small letters. -/
import Derived.Test.YtmkefndmiagoaaaDoorOfRunes
namespace Go.Proofs.YtmkefndmiagoaaaDoor
open Go.RowKit
set_option linter.unusedVariables false
set_option linter.unusedSimpArgs false

/-- A completer's pointer, as an interface value. -/
abbrev pcV (p : Nat) : Value := .iface 48 (.pointer (some ⟨p, 0, none⟩))
/-- What a completer has as a name: a word, and a blank. -/
def Named (w : World) (p : Nat) (s : ByteArray) : Prop :=
  ∃ g c, w.cell? ⟨p, 0, none⟩ = some (.slice (some ⟨g, 0, none⟩) (s.size + 1) c) ∧ w.cell? ⟨p, 1, none⟩ = some (.bool false) ∧ s.size + 1 ≤ c ∧ g < w.heap.size ∧ p < w.heap.size ∧ RuneRow w (some ⟨g, 0, none⟩) (runes s ++ [32])
/-- A row of completers, each with a property. -/
def KidP (w : World) (A : Option Addr) (n : Nat) (P : Nat → Nat → Prop) : Prop :=
  n = 0 ∨ ∃ b o, A = some ⟨b, o, none⟩ ∧ b < w.heap.size ∧ ∀ j, j < n → ∃ p, w.cell? ⟨b, o + j, none⟩ = some (pcV p) ∧ P j p
def Root (w : World) (pb n : Nat) (P : Nat → Nat → Prop) : Prop := ∃ A c, w.cell? ⟨pb, 3, none⟩ = some (.slice A n c) ∧ pb < w.heap.size ∧ KidP w A n P

theorem Named.below {w w' : World} {p : Nat} {s : ByteArray} (h : Named w p s) (hb : Below w.heap.size w w') : Named w' p s := by
  obtain ⟨g, c, h1, h2, h3, h4, h5, h6⟩ := h
  exact ⟨g, c, (hb.cell (p := ⟨p, 0, none⟩) h5).trans h1, (hb.cell (p := ⟨p, 1, none⟩) h5).trans h2, h3, Nat.lt_of_lt_of_le h4 hb.size, Nat.lt_of_lt_of_le h5 hb.size, h6.mono hb⟩

theorem getChildren_any (p : Nat) (v : Value) (w : World) (h : w.cell? ⟨p, 3, none⟩ = some v) : Calls Tryd.prog 76 #[.pointer (some ⟨p, 0, none⟩)] w fun e w' => e = .returned v ∧ w = w' := by
  have hp := lt_of_cell h
  go_enter Tryd.func76, Tryd.ntmps76
  go_wp2_with fail
  go_returns
  exact ⟨rfl, rfl⟩
theorem getName_any (p : Nat) (v : Value) (w : World) (h : w.cell? ⟨p, 0, none⟩ = some v) : Calls Tryd.prog 78 #[.pointer (some ⟨p, 0, none⟩)] w fun e w' => e = .returned v ∧ w = w' := by
  have hp := lt_of_cell h
  go_enter Tryd.func78, Tryd.ntmps78
  go_wp2_with fail
  go_returns
  exact ⟨rfl, rfl⟩
theorem isDynamic_any (p : Nat) (v : Value) (w : World) (h : w.cell? ⟨p, 1, none⟩ = some v) : Calls Tryd.prog 79 #[.pointer (some ⟨p, 0, none⟩)] w fun e w' => e = .returned v ∧ w = w' := by
  have hp := lt_of_cell h
  go_enter Tryd.func79, Tryd.ntmps79
  go_wp2_with fail
  go_returns
  exact ⟨rfl, rfl⟩
theorem asDyn (v : Value) (w : World) : (Instr.typeAssert (.iface 48 v) 69 72 true).run Tryd.prog w = .ok (.tuple #[.iface 48 v, .bool true]) w :=
  run_typeAssert_hasB Tryd.underlying72 (by kernel_rfl) v _ w

/-- RowsO of code points that stood in a world: those of some texts. -/
def RowsO (w0 : World) (L : List ByteArray) (xs : List Value) : Prop :=
  xs.length = L.length ∧ ∀ j, j < L.length → ∃ g o c, xs[j]? = some (.slice (some ⟨g, o, none⟩) (txt L j).size c) ∧ (txt L j).size ≤ c ∧ g < w0.heap.size ∧ RuneRow w0 (some ⟨g, o, none⟩) (runes (txt L j))
theorem RowsO.nil (w0 : World) : RowsO w0 [] [] := ⟨rfl, fun j hj => by simp at hj⟩
theorem RowsO.push {w0 : World} {L : List ByteArray} {xs : List Value} (h : RowsO w0 L xs) {t : ByteArray} {g o c : Nat} (hc : t.size ≤ c) (hg : g < w0.heap.size) (hr : RuneRow w0 (some ⟨g, o, none⟩) (runes t)) : RowsO w0 (L ++ [t]) (xs ++ [.slice (some ⟨g, o, none⟩) t.size c]) := by
  refine ⟨by simp [h.1], fun j hj => ?_⟩
  by_cases e : j < L.length
  · obtain ⟨g', o', c', h1, h2, h3, h4⟩ := h.2 j e
    have et : txt (L ++ [t]) j = txt L j := by simp [txt, List.getElem?_append_left e]
    rw [et]
    exact ⟨g', o', c', by rw [List.getElem?_append_left (by rw [h.1]; exact e)]; exact h1, h2, h3, h4⟩
  · obtain rfl : j = L.length := by simp at hj; omega
    have et : txt (L ++ [t]) L.length = t := by simp [txt]
    rw [et]
    exact ⟨g, o, c, by rw [List.getElem?_append_right (by rw [h.1]; exact Nat.le_refl _), h.1]; simp, hc, hg, hr⟩

def StQ (w0 wb : World) (L : List ByteArray) (m : Nat) (v ov : Value) (wr : World) : Prop :=
  ∃ (off : Nat) (xs : List Value), ov = .int .i64 (off : Nat) ∧ (L ≠ [] → off = m) ∧ wr.ownsRow wb.heap.size 51 1 v L.length xs ∧ RowsO w0 L xs ∧ Below wb.heap.size wb wr
def DoiPost (w0 : World) (L : List ByteArray) (m : Nat) (w : World) (e : Ending) (w' : World) : Prop := ∃ v ov, e = .returned (.tuple #[v, ov]) ∧ StQ w0 w L m v ov w'

theorem no_blank {s b : ByteArray} (hs : IsSmall s) (hb : IsSmall b) (h : s.size + 1 ≤ b.size) : (runes b).take (runes s ++ [32]).length ≠ runes s ++ [32] := fun e => by
  have h32 : (32 : Int) ∈ (runes b).take (runes s ++ [32]).length := by rw [e]; simp
  have := hb.runes 32 (List.mem_of_mem_take h32)
  omega
theorem beg_take {s b : ByteArray} (hs : IsSmall s) (hb : IsSmall b) (h : b.size ≤ s.size) : ((runes s ++ [32]).take (runes b).length = runes b) ↔ beg s b = true := by
  have hl := runes_ascii_length b hb.ascii
  have hl2 := runes_ascii_length s hs.ascii
  rw [beg_runes hs.ascii hb.ascii, decide_eq_true_iff, hl, List.take_append_of_le_length (by omega)]
  exact ⟨fun e => ⟨h, e⟩, fun e => e.2⟩

theorem row_below {w w' : World} {base : Nat} {e : TypeId} {z : Nat} {v : Value} {n : Nat} {xs : List Value} (h : w.ownsRow base e z v n xs) (hb : Below w.heap.size w w') : w'.ownsRow base e z v n xs := by
  refine ⟨h.1, ?_⟩
  rcases h.2 with h0 | ⟨g, cap, cur, rfl, hg, hh, r⟩
  · exact .inl h0
  · exact .inr ⟨g, cap, cur, rfl, hg, by rw [hb.block g (Array.getElem?_eq_some_iff.1 hh).1]; exact hh, r⟩
theorem row_shape {w : World} {base : Nat} {e : TypeId} {z : Nat} {v : Value} {n : Nat} {xs : List Value} (h : w.ownsRow base e z v n xs) : ∃ A c, v = .slice A n c := by
  rcases h.2 with ⟨rfl, rfl⟩ | ⟨g, cap, cur, rfl, _⟩
  · exact ⟨_, _, rfl⟩
  · exact ⟨_, _, rfl⟩
theorem StQ.same {w0 wb : World} {L : List ByteArray} {m : Nat} {v ov : Value} {wr wr' : World} (h : StQ w0 wb L m v ov wr) (hb : Below wr.heap.size wr wr') : StQ w0 wb L m v ov wr' := by
  obtain ⟨off, xs, h1, h2, h3, h4, h5⟩ := h
  exact ⟨off, xs, h1, h2, row_below h3 hb, h4, h5.trans (hb.mono h5.size)⟩
/-- A new block of one cell. -/
theorem made_one {w : World} {B : Nat} {e : TypeId} {xs : List Value} (h : w.ownsRow B e 1 (.slice (some ⟨B, 0, none⟩) 1 1) 1 xs) : (∃ u, w.cell? ⟨B, 0, none⟩ = some u) ∧ w.frozen? ⟨B, 0, none⟩ = false ∧ B < w.heap.size := by
  rcases h.2 with ⟨h0, _⟩ | ⟨g, cap, cur, hv, hg, hh, hc, _, hcs, htk⟩
  · cases h0
  · cases hv
    refine ⟨⟨cur[0]'(by omega), ?_⟩, ?_, (Array.getElem?_eq_some_iff.1 hh).1⟩
    · have h0 : 0 < cur.size := by omega
      simp [World.cell?, hh, h0]
    · simp [World.frozen?, hh]
theorem fromA_at {g c i : Nat} (h : c ≠ i) : fromA (some ⟨g, 0, none⟩) c i = some ⟨g, i, none⟩ := by
  unfold fromA
  rw [if_neg h]
  simp only [Option.map_some, Addr.add]
  by_cases h0 : i = 0
  · rw [if_pos h0, h0]
  · rw [if_neg h0, Nat.zero_add]
theorem news_any (w : World) (v : Value) (t : TypeId) : ∀ (j : Nat) (u : Value), [v][j]? = some u → (w.alloc (.cells #[v] t)).cell? ((⟨w.heap.size, 0, none⟩ : Addr).add j) = some u := by
  intro j u h
  match j, h with
  | 0, h => simp at h; subst h; simp [Addr.add]
  | j + 1, h => simp at h
theorem offs_len (ss : List ByteArray) (b : ByteArray) : (offs ss b).length ≤ ss.length := by
  unfold offs
  rw [List.length_map]
  exact List.length_filter_le _ _
set_option maxRecDepth 100000 in
set_option maxHeartbeats 4000000 in
theorem do_letters (w0 w : World) (hb0 : Below w0.heap.size w0 w) (pb : Nat) (ss : List ByteArray) (b : ByteArray) (A : Option Addr) (c : Nat) (orig : Value)
    (hroot : Root w0 pb ss.length fun j p => Named w0 p (txt ss j)) (hss : ss.length ≤ 8) (hs : ∀ j, j < ss.length → (txt ss j).size ≤ 12 ∧ IsSmall (txt ss j))
    (hbs : IsSmall b) (hbz : b.size ≤ 100) (hline : RuneRow w A (runes b)) (hc : b.size ≤ c) :
    Calls Tryd.prog 27 #[pcV pb, .slice A b.size c, .int .i64 (b.size : Nat), orig] w (DoiPost w0 (offs ss b) b.size w) := by
  obtain ⟨ib, hib, hz0, hz1, hz2⟩ := info_parts (show (Tryd.prog.info? 51).map (fun i => (i.zero, i.size, i.bytes)) = some (some (.slice none 0 0), 1, 24) by kernel_rfl)
  obtain ⟨ic, hic, hy0, hy1, hy2⟩ := info_parts (show (Tryd.prog.info? 21).map (fun i => (i.zero, i.size, i.bytes)) = some (some (.int .i32 0), 1, 4) by kernel_rfl)
  have hld : ∀ (W : World) (a : Addr), (loadVar 54 a).run Tryd.prog W = .ok (.agg #[]) W := fun W a => by kernel_rfl
  have hup := up_run A b.size c b.size hc
  have hdyn := asDyn
  obtain ⟨A3, c3, hA3, hpb, hkid⟩ := hroot
  have hA3w := (hb0.cell (p := ⟨pb, 3, none⟩) hpb).trans hA3
  have HKID := Go.Lib.hid hkid
  have HS := Go.Lib.hid hs
  have HBS := Go.Lib.hid hbs
  have HB0 := Go.Lib.hid hb0
  have HLINE := Go.Lib.hid hline
  have hrl := runes_ascii_length b hbs.ascii
  have HTRIM : Hid (∀ W : World, Below w.heap.size w W → Calls Tryd.prog 32 #[.agg #[], .slice A b.size c] W fun e w' => e = .returned (.slice A b.size c) ∧ Below W.heap.size W w') := fun W hW => by
    have := trim_any A c (runes b) W (hline.mono hW) (fun h0 => by
      refine hbs.runes _ ?_
      simp [nth, h0])
    rwa [hrl] at this
  have HPRE : Hid (∀ (W : World) (B : Option Addr) (d : Nat) (s : ByteArray), Below w.heap.size w W → IsSmall s → s.size ≤ 12 → RuneRow W B (runes s ++ [32]) → s.size + 1 ≤ b.size → Calls Tryd.prog 33 #[.agg #[], .slice A b.size c, .slice B (s.size + 1) d] W fun e w' => e = .returned (.bool false) ∧ Below W.heap.size W w') := fun W B d s hW hs1 hs2 hB hle => by
    have hsl : (runes s ++ [32]).length = s.size + 1 := by rw [List.length_append, runes_ascii_length s hs1.ascii]; rfl
    have := hasPrefix_any A B c d (runes b) (runes s ++ [32]) W (hline.mono hW) hB (by rw [hrl]; exact hc) (by rw [hsl, hrl]; exact hle) (by omega)
    rw [hrl, hsl] at this
    refine this.mono ?_
    rintro e w' ⟨r, rfl, hr, hb⟩
    cases r
    · exact ⟨rfl, hb⟩
    · exact absurd (hr.1 rfl) (by have := no_blank hs1 hbs hle; rwa [hsl] at this)
  have HPRF : Hid (∀ (W : World) (B : Option Addr) (d : Nat) (s : ByteArray), Below w.heap.size w W → IsSmall s → s.size ≤ 12 → RuneRow W B (runes s ++ [32]) → s.size + 1 ≤ d → b.size ≤ s.size → Calls Tryd.prog 33 #[.agg #[], .slice B (s.size + 1) d, .slice A b.size c] W fun e w' => e = .returned (.bool (beg s b)) ∧ Below W.heap.size W w') := fun W B d s hW hs1 hs2 hB hd hle => by
    have hsl : (runes s ++ [32]).length = s.size + 1 := by rw [List.length_append, runes_ascii_length s hs1.ascii]; rfl
    have := hasPrefix_any B A d c (runes s ++ [32]) (runes b) W hB (hline.mono hW) (by rw [hsl]; exact hd) (by rw [hsl, hrl]; omega) (by omega)
    rw [hsl] at this
    rw [show (Value.slice A (runes b).length c) = .slice A b.size c by rw [hrl]] at this
    refine this.mono ?_
    rintro e w' ⟨r, rfl, hr, hb⟩
    refine ⟨?_, hb⟩
    have h2 := hr.trans (beg_take hs1 hbs hle)
    cases r <;> cases hq : beg s b <;> simp_all
  clear hkid hs hbs hb0 hline hA3 hrl
  obtain ⟨n, hn⟩ : ∃ n, n = ss.length := ⟨_, rfl⟩
  have HN := Go.Lib.hid hn
  rw [← hn] at hA3w hss HKID
  clear hn
  obtain ⟨m, hm⟩ : ∃ m, m = b.size := ⟨_, rfl⟩
  have HM := Go.Lib.hid hm
  rw [← hm] at hup HTRIM hc hbz ⊢
  have HPRE' : Hid (∀ (W : World) (B : Option Addr) (d : Nat) (s : ByteArray), Below w.heap.size w W → IsSmall s → s.size ≤ 12 → RuneRow W B (runes s ++ [32]) → s.size + 1 ≤ m → Calls Tryd.prog 33 #[.agg #[], .slice A m c, .slice B (s.size + 1) d] W fun e w' => e = .returned (.bool false) ∧ Below W.heap.size W w') := by rw [hm]; exact HPRE
  have HPRF' : Hid (∀ (W : World) (B : Option Addr) (d : Nat) (s : ByteArray), Below w.heap.size w W → IsSmall s → s.size ≤ 12 → RuneRow W B (runes s ++ [32]) → s.size + 1 ≤ d → m ≤ s.size → Calls Tryd.prog 33 #[.agg #[], .slice B (s.size + 1) d, .slice A m c] W fun e w' => e = .returned (.bool (beg s b)) ∧ Below W.heap.size W w') := by rw [hm]; exact HPRF
  clear hm HPRE HPRF
  go_enter Tryd.func27, Tryd.ntmps27
  go_wp2_with fail
  refine region_quiet_tail 4 (by kernel_rfl) (by kernel_rfl) ?_
  simp only [List.take_succ_cons, List.take_zero, List.drop_succ_cons, List.drop_zero]
  repeat (go_big_quiet_step (fail))
  refine wpQuiet_nil ?_
  intro _ hw'
  obtain ⟨nq, hw''⟩ := hw'
  subst hw''
  go_wp2_with fail
  have hb1 : Below w.heap.size w (w.drewN nq) := below_drewN (Below.refl _ _) nq
  refine (HTRIM.out _ hb1).mono ?_
  rintro e w1 ⟨rfl, b1⟩
  have HB1 : Hid (Below w.heap.size w w1) := hb1.trans (b1.mono hb1.size)
  have HA3 := Go.Lib.hid ((HB1.out.cell (p := ⟨pb, 3, none⟩) (lt_of_cell hA3w)).trans hA3w)
  clear b1 hb1 HTRIM
  go_wp2_with fail
  refine (getChildren_any pb _ w1 HA3.out).mono ?_
  rintro e w2 ⟨rfl, rfl⟩
  clear hA3w
  go_wp2_with fail
  go_loopw [8, 9, 10, 29] (fun tv ov gv i wr => ∃ (k : Nat) (v o : Value), v = tv ∧ o = ov ∧ gv = .bool false ∧ k ≤ n ∧ i = .int .i64 k ∧ Hid (StQ w0 w (offs (ss.take k) b) m v o wr)) (fun _ _ _ i _ => n - (intOf i).toNat)
  case atStart => exact ⟨0, _, _, rfl, rfl, rfl, Nat.zero_le _, rfl, 0, [], rfl, fun h => absurd rfl h, World.ownsRow_nil _ _ _ _, RowsO.nil _, HB1.out⟩
  case round =>
    obtain ⟨k, v, o, rfl, rfl, rfl, hk, rfl, HQ⟩ := hrel
    by_cases hlt : k < n
    · rcases HKID.out with e0 | ⟨b3, o3, rfl, hb3, hkd⟩
      · omega
      obtain ⟨p, hcp, g, cc, n0, n1, hcc, hg, hp, hrow⟩ := hkd k hlt
      have hkl : k < ss.length := by rw [← HN.out]; exact hlt
      obtain ⟨hx12, hxs⟩ := HS.out k hkl
      have HT := Go.Lib.hid (offs_take ss b k hkl)
      obtain ⟨x, hx⟩ : ∃ x, x = txt ss k := ⟨_, rfl⟩
      rw [← hx] at n0 hcc hrow hx12 hxs HT
      clear hx hkd
      have HXS := Go.Lib.hid hxs
      obtain ⟨off, xs, rfl, hoff, hown, hrows, hbel⟩ := HQ.out
      have HBW : Hid (Below w0.heap.size w0 wr) := HB0.out.trans (hbel.mono HB0.out.size)
      have HBEL := Go.Lib.hid hbel
      have HROW := Go.Lib.hid hrow
      have e3 := (HBW.out.cell (p := ⟨b3, o3 + k, none⟩) hb3).trans hcp
      have HN0 : Hid (∀ W : World, Below wr.heap.size wr W → W.cell? ⟨p, 0, none⟩ = some (.slice (some ⟨g, 0, none⟩) (x.size + 1) cc)) := fun W hW => ((HBW.out.trans (hW.mono HBW.out.size)).cell (p := ⟨p, 0, none⟩) hp).trans n0
      have HN1 : Hid (∀ W : World, Below wr.heap.size wr W → W.cell? ⟨p, 1, none⟩ = some (.bool false)) := fun W hW => ((HBW.out.trans (hW.mono HBW.out.size)).cell (p := ⟨p, 1, none⟩) hp).trans n1
      have HOWN := Go.Lib.hid hown
      have hnb := own_lt hown
      have hk0 : (0 : Int) ≤ k := by omega
      have hk1 : (k : Int) < n := by omega
      clear hoff hown hrows hbel hrow n0 n1 hcp hxs
      go_wp2_with (at_make; refine wpList_make_full _ rfl _ _ 45 rfl wr.heap.size 51 ib (.slice none 0 0) 1 Tryd.underlying45 hib hz0 hz1 .i64 .i64 1 1 1 rfl rfl rfl rfl ?c2 ?c3 ?c4 ?_)
      case c2 => rw [hz2]; omega
      case c3 => unfold maxLen; omega
      case c4 => exact Nat.le_refl _
      intro w3 hown3 hgrow3
      have hb3' : Below wr.heap.size wr w3 := (Below.refl _ _).grown hgrow3 (Nat.le_refl _) (fun j hj => by cases hj)
      obtain ⟨B, hB⟩ : ∃ B, B = wr.heap.size := ⟨_, rfl⟩
      rw [← hB] at hown3 hnb ⊢
      have HBB := Go.Lib.hid hB
      clear hB
      obtain ⟨⟨u0, hu0⟩, hf0, hz3⟩ := made_one hown3
      have HB3 := Go.Lib.hid hb3'
      clear hown3 hgrow3 hb3'
      go_wp2_with fail
      refine (isDynamic_any p _ w3 (HN1.out w3 HB3.out)).mono ?_
      rintro e w4 ⟨rfl, rfl⟩
      go_wp2_with fail
      refine (getName_any p _ w3 (HN0.out w3 HB3.out)).mono ?_
      rintro e w4 ⟨rfl, rfl⟩
      go_wp2_with fail
      have hW4 : (w3.setCell ⟨B, 0, none⟩ (.slice (some ⟨g, 0, none⟩) (x.size + 1) cc)).cell? ⟨B, 0, none⟩ = some (.slice (some ⟨g, 0, none⟩) (x.size + 1) cc) := World.cell?_setCell_same' _ _ _ (by rw [hu0]; rfl)
      have HQ4 : Hid (StQ w0 w (offs (ss.take (k + 0)) b) m v (.int .i64 (off : Nat)) (w3.setCell ⟨B, 0, none⟩ (.slice (some ⟨g, 0, none⟩) (x.size + 1) cc))) := by
        obtain ⟨off', xs', h1, h2, h3, h4, h5⟩ := HQ.out
        exact ⟨off', xs', h1, h2, ownsRow_setCell_other (row_below h3 HB3.out) hnb _, h4, (h5.trans (HB3.out.mono h5.size)).setCell (by show _ ≤ B; rw [HBB.out]; exact h5.size) _⟩
      obtain ⟨W4, hW⟩ : ∃ W, W = w3.setCell ⟨B, 0, none⟩ (.slice (some ⟨g, 0, none⟩) (x.size + 1) cc) := ⟨_, rfl⟩
      rw [← hW] at hW4 HQ4 ⊢
      clear hW hu0 hf0 hz3 e3 HB3 HN0 HN1 HQ
      go_loopw [8, 9, 10, 53] (fun tv ov gv i wq => ∃ (q : Nat) (v o : Value), v = tv ∧ o = ov ∧ gv = .bool false ∧ q ≤ 1 ∧ i = .int .i64 q ∧ Hid (StQ w0 w (offs (ss.take (k + q)) b) m v o wq) ∧ Hid (q = 0 → wq.cell? ⟨B, 0, none⟩ = some (.slice (some ⟨g, 0, none⟩) (x.size + 1) cc))) (fun _ _ _ i _ => 1 - (intOf i).toNat)
      case atStart => exact ⟨0, _, _, rfl, rfl, rfl, by omega, rfl, HQ4.out, fun _ => hW4⟩
      case round =>
        obtain ⟨q, v, o, rfl, rfl, rfl, hq, rfl, HQ, HC⟩ := hrel
        by_cases hq0 : q = 0
        · subst hq0
          have c0 := HC.out rfl
          obtain ⟨off, xs, rfl, hoff, hown, hrows, hbel⟩ := HQ.out
          have HBW : Hid (Below w0.heap.size w0 wr) := HB0.out.trans (hbel.mono HB0.out.size)
          have HBEL := Go.Lib.hid hbel
          have HR := Go.Lib.hid (HROW.out.mono HBW.out)
          clear hoff hown hrows hbel HC
          by_cases hge : x.size + 1 ≤ m
          · have HE : Hid (offs (ss.take (k + 1)) b = offs (ss.take (k + 0)) b) := by
              have := HT.out
              rw [if_neg (fun h => by have h2 := beg_size h; have h3 := HM.out; omega), List.append_nil] at this
              exact this
            clear HT
            go_wp2_with fail
            refine (HPRE'.out wr _ cc x HBEL.out HXS.out hx12 HR.out hge).mono ?_
            rintro e w5 ⟨rfl, b5⟩
            have HQ5 : Hid (StQ w0 w (offs (ss.take (k + 1)) b) m v (.int .i64 (off : Nat)) w5) := by rw [HE.out]; exact HQ.out.same b5
            clear b5
            go_wp2_with fail
            go_roundw
            case rel => exact ⟨1, v, _, rfl, rfl, rfl, Nat.le_refl _, by go_num, HQ5.out, fun h => by cases h⟩
            case measure => simp [intOf]
          · have hle : m ≤ x.size := by omega
            go_wp2_with fail
            refine (HPRF'.out wr _ cc x HBEL.out HXS.out hx12 HR.out hcc hle).mono ?_
            rintro e w5 ⟨rfl, b5⟩
            have HQ5 : Hid (StQ w0 w (offs (ss.take (k + 0)) b) m v (.int .i64 (off : Nat)) w5) := HQ.out.same b5
            clear b5
            cases hbg : beg x b
            case false =>
              have HQ6 : Hid (StQ w0 w (offs (ss.take (k + 1)) b) m v (.int .i64 (off : Nat)) w5) := by
                have := HT.out
                rw [if_neg (by rw [hbg]; decide), List.append_nil] at this
                rw [this]; exact HQ5.out
              clear HT
              go_wp2_with fail
              go_roundw
              case rel => exact ⟨1, v, _, rfl, rfl, rfl, Nat.le_refl _, by go_num, HQ6.out, fun h => by cases h⟩
              case measure => simp [intOf]
            case true =>
              have HE : Hid (offs (ss.take (k + 1)) b = offs (ss.take (k + 0)) b ++ [left x b]) := by
                have := HT.out
                rw [if_pos hbg] at this
                exact this
              have hL8 : (offs (ss.take (k + 0)) b).length ≤ 8 := by
                have h1 := offs_len (ss.take (k + 0)) b
                have h2 : (ss.take (k + 0)).length ≤ 8 := by rw [List.length_take]; omega
                omega
              have hls : x.size + 1 - m = (left x b).size := by rw [left_size, ← HM.out]; omega
              have hfr := from_run (some ⟨g, 0, none⟩) (x.size + 1) cc m (by omega)
              rw [fromA_at (by omega), hls] at hfr
              have HRL : Hid (RuneRow w0 (some ⟨g, m, none⟩) (runes (left x b))) := by
                have h1 := HROW.out.drop cc m (by rw [List.length_append, runes_ascii_length x HXS.out.ascii]; exact hcc)
                rw [fromA_at (by omega), List.drop_append_of_le_length (by rw [runes_ascii_length x HXS.out.ascii]; exact hle)] at h1
                rw [Hid, left_runes x b HXS.out.ascii, ← HM.out]
                exact h1
              have hlc : (left x b).size ≤ cc - m := by rw [← hls]; omega
              clear HT hls
              obtain ⟨off5, xs5, hov, hoff5, hown5, hrows5, hbel5⟩ := HQ5.out
              obtain ⟨L1, hL1⟩ : ∃ L, L = offs (ss.take (k + 1)) b := ⟨_, rfl⟩
              rw [← hL1] at HE
              have HL1 := Go.Lib.hid hL1
              clear hL1
              generalize offs (ss.take (k + 0)) b = L0 at HE hL8 HQ HQ5 hoff5 hown5 hrows5
              obtain ⟨c1, hc1⟩ : ∃ z, z = cc - m := ⟨_, rfl⟩
              rw [← hc1] at hfr hlc
              clear hc1
              obtain ⟨t, ht⟩ : ∃ t, t = left x b := ⟨_, rfl⟩
              rw [← ht] at hfr hlc HRL HE
              clear ht hbg
              have HROWS := Go.Lib.hid hrows5
              have HOWN := Go.Lib.hid hown5
              have HBEL5 := Go.Lib.hid hbel5
              have hlo := hown5.lt
              have hwz := hbel5.size
              have hnews := news_any w5 (.slice (some ⟨g, m, none⟩) t.size c1) 51
              clear hov hoff5 hown5 hrows5 hbel5
              go_wp2_with (at_builtin; refine wpList_append_own _ rfl _ _ 45 rfl w.heap.size 51 ib (.slice none 0 0) 1 24 Tryd.underlying45 hib hz0 hz1 hz2 rfl (by decide) v L0.length xs5 rfl (HOWN.out.alloc _) ⟨w5.heap.size, 0, none⟩ 1 1 [.slice (some ⟨g, m, none⟩) t.size c1] rfl rfl hnews (by simp [Value.oneCell']) ?c1 ?c2 ?c3 ?_)
              case c1 => unfold maxLen; omega
              case c2 => omega
              case c3 => simp; omega
              intro v2 w6 hown6 hgrow6 _
              have HQ6 : Hid (StQ w0 w (L0 ++ [t]) m v2 (.int .i64 (m : Nat)) w6) := by
                refine ⟨m, _, rfl, fun _ => rfl, ?_, HROWS.out.push hlc hg HRL.out, (HBEL5.out.alloc hwz _).grown hgrow6 (by simp; omega) fun j hj => (hlo j hj).1⟩
                rw [List.length_append]
                exact hown6
              clear hown6 hgrow6 hlo hnews
              go_wp2_with fail
              go_roundw
              case rel => exact ⟨1, v2, _, rfl, rfl, rfl, Nat.le_refl _, by go_num, by rw [Hid, ← HL1.out, HE.out]; exact HQ6.out, fun h => by cases h⟩
              case measure => simp [intOf]
        · obtain rfl : q = 1 := by omega
          go_wp2_with fail
          go_roundw
          case rel => exact ⟨k + 1, v, o, rfl, rfl, rfl, by omega, by go_num, HQ.out⟩
          case measure => simp [intOf]; omega
    · obtain rfl : k = n := by omega
      rw [List.take_of_length_le (by rw [← HN.out]; exact Nat.le_refl _)] at HQ
      obtain ⟨off, xs, rfl, hoff, hown, hrows, hbel⟩ := HQ.out
      obtain ⟨A8, c8, rfl⟩ := row_shape hown
      have hk1 : ¬ ((k : Int) < k) := by omega
      clear hown hrows hbel
      by_cases h1 : (offs ss b).length = 1
      · obtain rfl : off = m := hoff (by intro e; rw [e] at h1; simp at h1)
        have q : (((offs ss b).length : Int) != 1) = false := by rw [h1]; rfl
        clear hoff h1
        go_wp2_with (at_make; refine wpList_make_own _ rfl _ _ 51 rfl wr.heap.size 21 ic (.int .i32 0) 1 Tryd.underlying51 hic hy0 hy1 .i64 .i64 (off : Int) off rfl rfl rfl ?c2 ?c3 ?c4 ?_)
        case c2 => first | omega | (rw [hy2]; omega)
        case c3 => unfold maxLen; omega
        intro w3 hown3 hgrow3
        have HQ3 := Go.Lib.hid (HQ.out.same ((Below.refl _ _).grown hgrow3 (Nat.le_refl _) (fun j hj => by cases hj)))
        clear hown3 hgrow3
        go_wp2_with fail
        go_loopw [8, 9, 20] (fun tv ov i wq => tv = .slice A8 (offs ss b).length c8 ∧ ov = .int .i64 (off : Nat) ∧ i = .int .i64 (off : Nat) ∧ Hid (StQ w0 w (offs ss b) off (.slice A8 (offs ss b).length c8) (.int .i64 (off : Nat)) wq)) (fun _ _ _ _ => 0)
        case atStart => exact ⟨rfl, rfl, rfl, HQ3.out⟩
        case round =>
          obtain ⟨rfl, rfl, rfl, HQR⟩ := hrel
          go_wp2_with fail
          go_returns
          exact ⟨_, _, rfl, HQR.out⟩
      · have q : (((offs ss b).length : Int) != 1) = true := by simp; omega
        clear hoff h1
        go_wp2_with fail
        go_returns
        exact ⟨_, _, rfl, HQ.out⟩
end Go.Proofs.YtmkefndmiagoaaaDoor
