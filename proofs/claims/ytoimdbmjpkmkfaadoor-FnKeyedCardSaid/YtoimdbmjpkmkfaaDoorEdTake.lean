/- spec.Editor.take, spec.Editor.put. -/
import Derived.Test.YtoimdbmjpkmkfaaDoorEdMove
namespace Go.Proofs.YtoimdbmjpkmkfaaDoor
open Go.RowKit
set_option linter.unusedVariables false
set_option linter.unusedSimpArgs false

theorem rw_src {w : World} {eb : Nat} {A : Option Addr} {cap : Nat} {l : List Int} (h : Rw w eb A l) (hn : A = none → cap = 0) (hc : l.length ≤ cap) (i m : Nat) (him : i ≤ m) (hm : m ≤ l.length) : Src w (fromA A cap i) (m - i) (cap - i) ((l.take m).drop i) := by
  refine ⟨by simp; omega, ?_⟩
  by_cases he : m - i = 0
  · have e : (l.take m).drop i = [] := List.drop_eq_nil_of_le (by simp; omega)
    rcases A with _ | ad
    · exact .inl ⟨by unfold fromA; split <;> rfl, e, by have := hn rfl; omega⟩
    · refine .inr ?_
      have hf : ∃ ad', fromA (some ad) cap i = some ad' := by
        unfold fromA
        by_cases h : cap = i
        · rw [if_pos h]; exact ⟨_, rfl⟩
        · rw [if_neg h]; exact ⟨_, rfl⟩
      obtain ⟨ad', hf⟩ := hf
      exact ⟨ad', hf, fun j u hu => by rw [e] at hu; simp [i32s] at hu⟩
  · rcases h with rfl | ⟨b, off, rfl, hbl, hne, hcl⟩
    · simp at hm; omega
    · have hci : cap ≠ i := by omega
      refine .inr ⟨(⟨b, off, none⟩ : Addr).add i, by unfold fromA; rw [if_neg hci]; rfl, fun j u hu => ?_⟩
      obtain ⟨x, hx, rfl⟩ : ∃ x, ((l.take m).drop i)[j]? = some x ∧ u = .int .i32 x := by
        rw [i32s, List.getElem?_map] at hu
        obtain ⟨x, h1, h2⟩ := Option.map_eq_some_iff.1 hu
        exact ⟨x, h1, h2.symm⟩
      have hj : j < ((l.take m).drop i).length := (List.getElem?_eq_some_iff.1 hx).1
      simp at hj
      have hx2 : l[i + j]? = some x := by
        rw [List.getElem?_drop, List.getElem?_take_of_lt (by omega)] at hx
        exact hx
      have hil : i + j < l.length := by omega
      rw [add_flat0, add_flat0, Nat.add_assoc, hcl (i + j) hil]
      have : nth l (i + j) = x := by rw [nth_eq l _ hil]; exact (List.getElem?_eq_some_iff.1 hx2).2
      rw [this]

theorem row_rw {w : World} {base eb : Nat} {A : Option Addr} {cap : Nat} {l : List Int} (h : Row w base A cap l) (hb : eb < base) : Rw w eb A l ∧ l.length ≤ cap ∧ (A = none → cap = 0) := by
  rcases h.own with ⟨rfl, rfl, rfl⟩ | ⟨g, rfl, h1, h2, h3, h4, hc⟩
  · exact ⟨.inl rfl, Nat.le_refl _, fun _ => rfl⟩
  · exact ⟨.inr ⟨g, 0, rfl, h2, ⟨by omega, h3⟩, fun i hi => by rw [Nat.zero_add]; exact hc i _ (by simp [nth, hi])⟩, h4, fun h => by cases h⟩

theorem mid_runE (A : Option Addr) (n cap i m : Nat) (h : i ≤ m) (hm : m ≤ cap) : ∀ w, (Instr.slice 38 (.slice A n cap) (some (.int .i64 (i : Nat))) (some (.int .i64 (m : Nat))) none).run Tryd.prog w = .ok (.slice (fromA A cap i) (m - i) (cap - i)) w := mid_run A n cap i m h hm

/-- A copy of a part of a row, in memory of its own. -/
theorem copy_part (w : World) {eb : Nat} {A : Option Addr} {cap : Nat} {l : List Int} (h : Rw w eb A l) (hn : A = none → cap = 0) (hc : l.length ≤ cap) (hl : l.length ≤ 100000) (he : eb < w.heap.size) (i m : Nat) (him : i ≤ m) (hm : m ≤ l.length) :
    ∃ A' cap' w', (Builtin.append_ #[38, 38] 38 #[.slice (some ⟨w.heap.size, 0, none⟩) 0 0, .slice (fromA A cap i) (m - i) (cap - i)]).run Tryd.prog (w.alloc (.cells #[] 21)) = .ok (.slice A' (m - i) cap') w' ∧
      Row w' w.heap.size A' cap' ((l.take m).drop i) ∧ Below w.heap.size w w' := by
  have hb : Below w.heap.size w (w.alloc (.cells #[] 21)) := (Below.refl _ _).alloc (Nat.le_refl _) _
  have hs := rw_src (h.kept hb.size fun k hk _ => hb.block k hk) hn hc i m him hm
  obtain ⟨A', cap', w', h1, h2, h3, h4⟩ := run_append_row (w.alloc (.cells #[] 21)) w.heap.size _ 0 [] (row_empty w _ (Nat.le_refl _)) _ _ _ _ hs (by simp) (by simp; omega)
  have hlen : ([] ++ (l.take m).drop i).length = m - i := by simp; omega
  rw [hlen] at h1
  exact ⟨A', cap', w', h1, h2, hb.grown h3 (by simp) fun k hk => by simp [blk] at hk; omega⟩

/-- What is left of a line. -/
def without (l : List Int) (i m : Nat) : List Int := l.take i ++ l.drop m
def StepPost (eb : Nat) (l' : List Int) (k' : Nat) (kept' : List Int) (w : World) (e : Ending) (w' : World) : Prop :=
  e = .returned (.tuple #[]) ∧ Ed w' eb l' k' kept' false false ∧ EdK eb w w'

theorem whole_src {w : World} {eb : Nat} {A : Option Addr} {cap : Nat} {l : List Int} (h : Rw w eb A l) (hn : A = none → cap = 0) (hc : l.length ≤ cap) (i : Nat) (hi : i ≤ l.length) : Src w (fromA A cap i) (l.length - i) (cap - i) (l.drop i) := by
  have := rw_src h hn hc i l.length hi (Nat.le_refl _)
  rwa [List.take_length] at this

set_option maxRecDepth 100000 in
set_option maxHeartbeats 4000000 in
/-- The line without what stands between two places. -/
theorem ed_cut (eb : Nat) (l : List Int) (k : Nat) (kept : List Int) (i m : Nat) (w : World) (h : Ed w eb l k kept false false) (him : i ≤ m) (hm : m ≤ l.length) (hl : l.length ≤ 100000) (keep : Bool) (kept' : List Int) (hk' : kept' = if keep then (l.take m).drop i else kept) :
    Calls Tryd.prog 16 #[.pointer (some ⟨eb, 0, none⟩), .int .i64 (i : Nat), .int .i64 (m : Nat), .bool keep] w (StepPost eb (without l i m) i kept' w) := by
  have H := Go.Lib.hid h
  -- the line's second part, and the first one, in memory of their own
  have key : ∀ (w : World) (A : Option Addr) (cap : Nat) (B : Option Addr) (cap2 : Nat) (kept' : List Int), EdV w eb l k kept' false false A cap B cap2 → ∃ A1 c1 w1 A2 c2 w2,
      (Builtin.append_ #[38, 38] 38 #[.slice (some ⟨w.heap.size, 0, none⟩) 0 0, .slice A i cap]).run Tryd.prog (w.alloc (.cells #[] 21)) = .ok (.slice A1 i c1) w1 ∧ Below w.heap.size w w1 ∧
      (Builtin.append_ #[38, 38] 38 #[.slice A1 i c1, .slice (fromA A cap m) (l.length - m) (cap - m)]).run Tryd.prog w1 = .ok (.slice A2 (without l i m).length c2) w2 ∧ Below w.heap.size w w2 ∧
      Rw w2 eb A2 (without l i m) ∧ (without l i m).length ≤ c2 ∧ (A2 = none → c2 = 0) := fun w A cap B cap2 kept' hv => by
    obtain ⟨A1, c1, w1, hr1, ho1, hb1⟩ := copy_part w hv.r0 hv.n0 hv.lc hl hv.sz 0 i (by omega) (by omega)
    rw [Nat.sub_zero, Nat.sub_zero] at hr1
    have hfa : fromA A cap 0 = A := by
      unfold fromA
      split
      · rfl
      · cases A <;> simp [Addr.add]
    rw [hfa] at hr1
    rw [List.drop_zero] at ho1
    have hlen1 : (l.take i).length = i := by simp; omega
    have hv1 := hv.same hb1
    obtain ⟨A2, c2, w2, hr2, ho2, hg2, hbk⟩ := run_append_row w1 w.heap.size A1 c1 (l.take i) ho1 _ _ _ _ (whole_src hv1.r0 hv.n0 hv.lc m hm) hb1.size (by simp; omega)
    rw [hlen1] at hr2
    have hb2 : Below w.heap.size w w2 := hb1.grown hg2 hb1.size fun g hg => (ho1.blk_lt hg).1
    obtain ⟨q1, q2, q3⟩ := row_rw (eb := eb) ho2 hv.sz
    exact ⟨A1, c1, w1, A2, c2, w2, hr1, hb1, hr2, hb2, q1, q2, q3⟩
  have HKEY := Go.Lib.hid key
  have hs1 := fun (A : Option Addr) (cap : Nat) (h : i ≤ cap) => up_run A l.length cap i h
  have hs2 := fun (A : Option Addr) (cap : Nat) (h : m ≤ l.length) => from_run A l.length cap m h
  have hs3 := fun (A : Option Addr) (cap : Nat) (h : m ≤ cap) => mid_runE A l.length cap i m him h
  clear h key
  cases keep
  · obtain rfl : kept' = kept := hk'
    obtain ⟨A, cap, B, cap2, hv⟩ := H.out
    have K0 := EdK.refl eb w
    have HVD : Hid (EdV w.drew eb l k kept' false false A cap B cap2) := hv.same (Below.refl _ _).drew
    obtain ⟨A1, c1, w1, A2, c2, w2, r1, b1, r2, b2, q1, q2, q3⟩ := HKEY.out w.drew A cap B cap2 kept' HVD.out
    have c0 := hv.c0
    have sz := hv.sz
    have hs1' := hs1 A cap (by have := hv.lc; omega)
    have hs2' := hs2 A cap hm
    have d0 : (w.drew.alloc (.cells #[] 21)).cell? ⟨eb, 0, none⟩ = some (.slice A l.length cap) := (((Below.refl w.heap.size w).drew).alloc (Nat.le_refl _) _ |>.cell (p := ⟨eb, 0, none⟩) sz).trans c0
    have e0 : w1.cell? ⟨eb, 0, none⟩ = some (.slice A l.length cap) := (b1.cell (p := ⟨eb, 0, none⟩) sz).trans c0
    have g0 : w2.cell? ⟨eb, 0, none⟩ = some (.slice A l.length cap) := (b2.cell (p := ⟨eb, 0, none⟩) sz).trans c0
    have hv2 := HVD.out.same b2
    have HV3 := Go.Lib.hid ((hv2.line q1 q2 q3).at i)
    have K3 : Hid (EdK eb w w2) := K0.trans (.of (((Below.refl _ _).drew).trans b2))
    have f0 := hv2.f 0
    have f1 := hv2.f 1
    have g1 := hv2.c1
    have z2 := hv2.sz
    obtain ⟨n2, hn2⟩ : ∃ n2, n2 = (without l i m).length := ⟨_, rfl⟩
    rw [← hn2] at r2 HV3
    have HR1 := Go.Lib.hid r1
    have HR2 := Go.Lib.hid r2
    clear hv hs1 hs2 hs3 b1 b2 hv2 q1 q2 q3 hn2 HKEY H HVD r1 r2 K0
    go_enter Tryd.func16, Tryd.ntmps16
    go_wp2_with fail
    refine region_held_tail 16 (S := (fun w' => w'.cell? ⟨eb, 0, none⟩ = some (.slice A l.length cap))) (by kernel_rfl) (by kernel_rfl) ?_ (fun hHeld => ?_)
    · (try dsimp only); first | done | (first | exact c0 | exact d0 | exact e0 | exact g0 | simp [go_sem, c0, sz])
    refine HeldT.take (i := 0) (v := ?_) (by simp only [List.getElem?_toArray, List.getElem?_cons_succ, List.getElem?_cons_zero]; rfl) (by kernel_rfl) (by kernel_rfl) (by kernel_rfl) (by kernel_rfl) (by exact fun _ _ _ h => h) ?_ (by assumption) ?_
    rotate_left
    · refine Or.inl ⟨by rfl, ?_⟩
      (intro w hSw; (try dsimp only at hSw); go_simp; try with_reducible rfl)
    try simp only [Act.put, List.setIfInBounds_toArray, List.set_cons_zero, List.set_cons_succ]
    refine HeldT.take (i := 2) (v := ?_) (by simp only [List.getElem?_toArray, List.getElem?_cons_succ, List.getElem?_cons_zero]; rfl) (by kernel_rfl) (by kernel_rfl) (by kernel_rfl) (by kernel_rfl) (by exact fun _ _ _ h => h) ?_ (by assumption) ?_
    rotate_left
    · refine Or.inl ⟨by rfl, ?_⟩
      (intro w hSw; (try dsimp only at hSw); go_simp; try with_reducible rfl)
    try simp only [Act.put, List.setIfInBounds_toArray, List.set_cons_zero, List.set_cons_succ]
    refine HeldT.take (i := 3) (v := ?_) (by simp only [List.getElem?_toArray, List.getElem?_cons_succ, List.getElem?_cons_zero]; rfl) (by kernel_rfl) (by kernel_rfl) (by kernel_rfl) (by kernel_rfl) (by exact fun _ _ _ h => h) ?_ (by assumption) ?_
    rotate_left
    · refine Or.inl ⟨by rfl, ?_⟩
      (intro w hSw; (try dsimp only at hSw); go_simp; try with_reducible rfl)
    try simp only [Act.put, List.setIfInBounds_toArray, List.set_cons_zero, List.set_cons_succ]
    refine HeldT.take (i := 4) (v := ?_) (by simp only [List.getElem?_toArray, List.getElem?_cons_succ, List.getElem?_cons_zero]; rfl) (by kernel_rfl) (by kernel_rfl) (by kernel_rfl) (by kernel_rfl) (by exact fun _ _ _ h => h) ?_ (by assumption) ?_
    rotate_left
    · refine Or.inl ⟨by rfl, ?_⟩
      (intro w hSw; (try dsimp only at hSw); go_simp; try with_reducible rfl)
    try simp only [Act.put, List.setIfInBounds_toArray, List.set_cons_zero, List.set_cons_succ]
    refine HeldT.take (i := 5) (v := ?_) (by simp only [List.getElem?_toArray, List.getElem?_cons_succ, List.getElem?_cons_zero]; rfl) (by kernel_rfl) (by kernel_rfl) (by kernel_rfl) (by kernel_rfl) (by exact fun _ _ _ h => h) ?_ (by assumption) ?_
    rotate_left
    · refine Or.inl ⟨by rfl, ?_⟩
      (intro w hSw; (try dsimp only at hSw); go_simp; try with_reducible rfl)
    try simp only [Act.put, List.setIfInBounds_toArray, List.set_cons_zero, List.set_cons_succ]
    refine HeldT.take (i := 6) (v := ?_) (by simp only [List.getElem?_toArray, List.getElem?_cons_succ, List.getElem?_cons_zero]; rfl) (by kernel_rfl) (by kernel_rfl) (by kernel_rfl) (by kernel_rfl) (by exact fun _ _ _ h => h) ?_ (by assumption) ?_
    rotate_left
    · refine Or.inl ⟨by rfl, ?_⟩
      (intro w hSw; (try dsimp only at hSw); go_simp; try with_reducible rfl)
    try simp only [Act.put, List.setIfInBounds_toArray, List.set_cons_zero, List.set_cons_succ]
    refine HeldT.take (i := 7) (v := ?_) (by simp only [List.getElem?_toArray, List.getElem?_cons_succ, List.getElem?_cons_zero]; rfl) (by kernel_rfl) (by kernel_rfl) (by kernel_rfl) (by kernel_rfl) (by exact fun _ _ _ h => h) ?_ (by assumption) ?_
    rotate_left
    · refine Or.inl ⟨by rfl, ?_⟩
      (intro w hSw; (try dsimp only at hSw); go_simp; try with_reducible rfl)
    try simp only [Act.put, List.setIfInBounds_toArray, List.set_cons_zero, List.set_cons_succ]
    refine HeldT.take (i := 9) (v := ?_) (by simp only [List.getElem?_toArray, List.getElem?_cons_succ, List.getElem?_cons_zero]; rfl) (by kernel_rfl) (by kernel_rfl) (by kernel_rfl) (by kernel_rfl) (by exact fun _ _ _ h => h) ?_ (by assumption) ?_
    rotate_left
    · refine Or.inl ⟨by rfl, ?_⟩
      (intro w hSw; (try dsimp only at hSw); go_simp; try with_reducible rfl)
    try simp only [Act.put, List.setIfInBounds_toArray, List.set_cons_zero, List.set_cons_succ]
    refine HeldT.take (i := 10) (v := ?_) (by simp only [List.getElem?_toArray, List.getElem?_cons_succ, List.getElem?_cons_zero]; rfl) (by kernel_rfl) (by kernel_rfl) (by kernel_rfl) (by kernel_rfl) (by exact fun _ _ _ h => h) ?_ (by assumption) ?_
    rotate_left
    · refine Or.inl ⟨by rfl, ?_⟩
      (intro w hSw; (try dsimp only at hSw); go_simp; try with_reducible rfl)
    try simp only [Act.put, List.setIfInBounds_toArray, List.set_cons_zero, List.set_cons_succ]
    refine HeldT.take (i := 11) (v := ?_) (by simp only [List.getElem?_toArray, List.getElem?_cons_succ, List.getElem?_cons_zero]; rfl) (by kernel_rfl) (by kernel_rfl) (by kernel_rfl) (by kernel_rfl) (by exact fun _ _ _ h => h) ?_ (by assumption) ?_
    rotate_left
    · refine Or.inl ⟨by rfl, ?_⟩
      (intro w hSw; (try dsimp only at hSw); go_simp; try with_reducible rfl)
    try simp only [Act.put, List.setIfInBounds_toArray, List.set_cons_zero, List.set_cons_succ]
    refine HeldT.take (i := 12) (v := ?_) (by simp only [List.getElem?_toArray, List.getElem?_cons_succ, List.getElem?_cons_zero]; rfl) (by kernel_rfl) (by kernel_rfl) (by kernel_rfl) (by kernel_rfl) (by exact fun _ _ _ h => h) ?_ (by assumption) ?_
    rotate_left
    · refine Or.inl ⟨by rfl, ?_⟩
      (intro w hSw; (try dsimp only at hSw); go_simp; try with_reducible rfl)
    try simp only [Act.put, List.setIfInBounds_toArray, List.set_cons_zero, List.set_cons_succ]
    refine HeldT.take (i := 13) (v := ?_) (by simp only [List.getElem?_toArray, List.getElem?_cons_succ, List.getElem?_cons_zero]; rfl) (by kernel_rfl) (by kernel_rfl) (by kernel_rfl) (by kernel_rfl) (by exact fun _ _ _ h => h) ?_ (by assumption) ?_
    rotate_left
    · refine Or.inl ⟨by rfl, ?_⟩
      (intro w hSw; (try dsimp only at hSw); go_simp; try with_reducible rfl)
    try simp only [Act.put, List.setIfInBounds_toArray, List.set_cons_zero, List.set_cons_succ]
    refine HeldT.take (i := 14) (v := ?_) (by simp only [List.getElem?_toArray, List.getElem?_cons_succ, List.getElem?_cons_zero]; rfl) (by kernel_rfl) (by kernel_rfl) (by kernel_rfl) (by kernel_rfl) (by exact fun _ _ _ h => h) ?_ (by assumption) ?_
    rotate_left
    · refine Or.inl ⟨by rfl, ?_⟩
      (intro w hSw; (try dsimp only at hSw); go_simp; try with_reducible rfl)
    try simp only [Act.put, List.setIfInBounds_toArray, List.set_cons_zero, List.set_cons_succ]
    refine HeldT.one (i := 1) (by simp only [List.getElem?_toArray, List.getElem?_cons_succ, List.getElem?_cons_zero]; rfl) (by kernel_rfl) (by kernel_rfl) (fun K hK => ?_)
    go_simp
    refine hK.out _ _ ?_ (fun hHeld => ?_)
    · (try dsimp only); first | done | (first | exact c0 | exact d0 | exact e0 | exact g0 | simp [go_sem, c0, sz])
    clear hK K
    try simp only [Act.put, List.setIfInBounds_toArray, List.set_cons_zero, List.set_cons_succ]
    refine HeldT.one (i := 8) (by simp only [List.getElem?_toArray, List.getElem?_cons_succ, List.getElem?_cons_zero]; rfl) (by kernel_rfl) (by kernel_rfl) (fun K hK => ?_)
    (refine step_append_run (by rfl) _ _ _ (by rfl) _ _ _ (by rfl) (by rfl) HR1.out ?_)
    refine hK.out _ _ ?_ (fun hHeld => ?_)
    · (try dsimp only); first | done | (first | exact c0 | exact d0 | exact e0 | exact g0 | simp [go_sem, c0, sz])
    clear hK K
    try simp only [Act.put, List.setIfInBounds_toArray, List.set_cons_zero, List.set_cons_succ]
    refine HeldT.one (i := 15) (by simp only [List.getElem?_toArray, List.getElem?_cons_succ, List.getElem?_cons_zero]; rfl) (by kernel_rfl) (by kernel_rfl) (fun K hK => ?_)
    (refine step_append_run (by rfl) _ _ _ (by rfl) _ _ _ (by rfl) (by rfl) HR2.out ?_)
    refine hK.out _ _ ?_ (fun hHeld => ?_)
    · (try dsimp only); first | done | (first | exact c0 | exact d0 | exact e0 | exact g0 | simp [go_sem, c0, sz])
    clear hK K
    try simp only [Act.put, List.setIfInBounds_toArray, List.set_cons_zero, List.set_cons_succ]
    refine HeldT.tail (by kernel_rfl) rfl ?_
    go_wp2_with fail
    go_returns
    exact ⟨rfl, ⟨_, _, _, _, HV3.out⟩, (K3.out.set _ _).set _ _⟩
  · obtain rfl : kept' = (l.take m).drop i := hk'
    obtain ⟨A, cap, B, cap2, hv0⟩ := H.out
    obtain ⟨A3, c3, w3, r3, o3, b3⟩ := copy_part w hv0.r0 hv0.n0 hv0.lc hl hv0.sz i m him hm
    have hlen3 : ((l.take m).drop i).length = m - i := by simp; omega
    obtain ⟨p1, p2, p3⟩ := row_rw (eb := eb) o3 hv0.sz
    have hv3 := hv0.same b3
    obtain ⟨W, hW⟩ : ∃ W, W = w3.setCell ⟨eb, 2, none⟩ (.slice A3 (m - i) c3) := ⟨_, rfl⟩
    have hv : EdV W eb l k ((l.take m).drop i) false false A cap A3 c3 := by
      rw [hW, ← hlen3]
      exact hv3.keep p1 p2 p3
    have K0 : EdK eb w W := by rw [hW]; exact (EdK.of b3).set _ _
    have a0 := hv0.c0
    have a2 := hv3.c2
    have f2 := hv3.f 2
    have hs3' := hs3 A cap (by have := hv0.lc; omega)
    have HR3 := Go.Lib.hid r3
    have HVD : Hid (EdV W.drew eb l k ((l.take m).drop i) false false A cap A3 c3) := hv.same (Below.refl _ _).drew
    obtain ⟨A1, c1, w1, A2, c2, w2, r1, b1, r2, b2, q1, q2, q3⟩ := HKEY.out W.drew A cap A3 c3 ((l.take m).drop i) HVD.out
    have c0 := hv.c0
    have sz := hv.sz
    have hs1' := hs1 A cap (by have := hv.lc; omega)
    have hs2' := hs2 A cap hm
    have d0 : (W.drew.alloc (.cells #[] 21)).cell? ⟨eb, 0, none⟩ = some (.slice A l.length cap) := (((Below.refl W.heap.size W).drew).alloc (Nat.le_refl _) _ |>.cell (p := ⟨eb, 0, none⟩) sz).trans c0
    have e0 : w1.cell? ⟨eb, 0, none⟩ = some (.slice A l.length cap) := (b1.cell (p := ⟨eb, 0, none⟩) sz).trans c0
    have g0 : w2.cell? ⟨eb, 0, none⟩ = some (.slice A l.length cap) := (b2.cell (p := ⟨eb, 0, none⟩) sz).trans c0
    have hv2 := HVD.out.same b2
    have HV3 := Go.Lib.hid ((hv2.line q1 q2 q3).at i)
    have K3 : Hid (EdK eb w w2) := K0.trans (.of (((Below.refl _ _).drew).trans b2))
    have f0 := hv2.f 0
    have f1 := hv2.f 1
    have g1 := hv2.c1
    have z2 := hv2.sz
    obtain ⟨n2, hn2⟩ : ∃ n2, n2 = (without l i m).length := ⟨_, rfl⟩
    rw [← hn2] at r2 HV3
    have HR1 := Go.Lib.hid r1
    have HR2 := Go.Lib.hid r2
    have C0 := Go.Lib.hid c0
    have HW := Go.Lib.hid hW
    have Z0 := Go.Lib.hid sz
    have sz' := hv0.sz
    have z3 := hv3.sz
    clear hv hv0 hs1 hs2 hs3 b1 b2 hv2 q1 q2 q3 hn2 HKEY H HVD r1 r2 K0 r3 o3 b3 hlen3 p1 p2 p3 hv3 c0 hW sz
    generalize hkk : (l.take m).drop i = kk at HV3
    have HKK := Go.Lib.hid hkk
    clear hkk
    go_enter Tryd.func16, Tryd.ntmps16
    go_wp2_with (at_builtin; refine wpList_append_run rfl _ _ 38 rfl _ _ _ rfl rfl HR3.out ?_)
    rw [← HW.out]
    have c0 := C0.out
    have sz := Z0.out
    refine region_held_tail 16 (S := (fun w' => w'.cell? ⟨eb, 0, none⟩ = some (.slice A l.length cap))) (by kernel_rfl) (by kernel_rfl) ?_ (fun hHeld => ?_)
    · (try dsimp only); first | done | (first | exact c0 | exact d0 | exact e0 | exact g0 | simp [go_sem, c0, sz])
    refine HeldT.take (i := 0) (v := ?_) (by simp only [List.getElem?_toArray, List.getElem?_cons_succ, List.getElem?_cons_zero]; rfl) (by kernel_rfl) (by kernel_rfl) (by kernel_rfl) (by kernel_rfl) (by exact fun _ _ _ h => h) ?_ (by assumption) ?_
    rotate_left
    · refine Or.inl ⟨by rfl, ?_⟩
      (intro w hSw; (try dsimp only at hSw); go_simp; try with_reducible rfl)
    try simp only [Act.put, List.setIfInBounds_toArray, List.set_cons_zero, List.set_cons_succ]
    refine HeldT.take (i := 2) (v := ?_) (by simp only [List.getElem?_toArray, List.getElem?_cons_succ, List.getElem?_cons_zero]; rfl) (by kernel_rfl) (by kernel_rfl) (by kernel_rfl) (by kernel_rfl) (by exact fun _ _ _ h => h) ?_ (by assumption) ?_
    rotate_left
    · refine Or.inl ⟨by rfl, ?_⟩
      (intro w hSw; (try dsimp only at hSw); go_simp; try with_reducible rfl)
    try simp only [Act.put, List.setIfInBounds_toArray, List.set_cons_zero, List.set_cons_succ]
    refine HeldT.take (i := 3) (v := ?_) (by simp only [List.getElem?_toArray, List.getElem?_cons_succ, List.getElem?_cons_zero]; rfl) (by kernel_rfl) (by kernel_rfl) (by kernel_rfl) (by kernel_rfl) (by exact fun _ _ _ h => h) ?_ (by assumption) ?_
    rotate_left
    · refine Or.inl ⟨by rfl, ?_⟩
      (intro w hSw; (try dsimp only at hSw); go_simp; try with_reducible rfl)
    try simp only [Act.put, List.setIfInBounds_toArray, List.set_cons_zero, List.set_cons_succ]
    refine HeldT.take (i := 4) (v := ?_) (by simp only [List.getElem?_toArray, List.getElem?_cons_succ, List.getElem?_cons_zero]; rfl) (by kernel_rfl) (by kernel_rfl) (by kernel_rfl) (by kernel_rfl) (by exact fun _ _ _ h => h) ?_ (by assumption) ?_
    rotate_left
    · refine Or.inl ⟨by rfl, ?_⟩
      (intro w hSw; (try dsimp only at hSw); go_simp; try with_reducible rfl)
    try simp only [Act.put, List.setIfInBounds_toArray, List.set_cons_zero, List.set_cons_succ]
    refine HeldT.take (i := 5) (v := ?_) (by simp only [List.getElem?_toArray, List.getElem?_cons_succ, List.getElem?_cons_zero]; rfl) (by kernel_rfl) (by kernel_rfl) (by kernel_rfl) (by kernel_rfl) (by exact fun _ _ _ h => h) ?_ (by assumption) ?_
    rotate_left
    · refine Or.inl ⟨by rfl, ?_⟩
      (intro w hSw; (try dsimp only at hSw); go_simp; try with_reducible rfl)
    try simp only [Act.put, List.setIfInBounds_toArray, List.set_cons_zero, List.set_cons_succ]
    refine HeldT.take (i := 6) (v := ?_) (by simp only [List.getElem?_toArray, List.getElem?_cons_succ, List.getElem?_cons_zero]; rfl) (by kernel_rfl) (by kernel_rfl) (by kernel_rfl) (by kernel_rfl) (by exact fun _ _ _ h => h) ?_ (by assumption) ?_
    rotate_left
    · refine Or.inl ⟨by rfl, ?_⟩
      (intro w hSw; (try dsimp only at hSw); go_simp; try with_reducible rfl)
    try simp only [Act.put, List.setIfInBounds_toArray, List.set_cons_zero, List.set_cons_succ]
    refine HeldT.take (i := 7) (v := ?_) (by simp only [List.getElem?_toArray, List.getElem?_cons_succ, List.getElem?_cons_zero]; rfl) (by kernel_rfl) (by kernel_rfl) (by kernel_rfl) (by kernel_rfl) (by exact fun _ _ _ h => h) ?_ (by assumption) ?_
    rotate_left
    · refine Or.inl ⟨by rfl, ?_⟩
      (intro w hSw; (try dsimp only at hSw); go_simp; try with_reducible rfl)
    try simp only [Act.put, List.setIfInBounds_toArray, List.set_cons_zero, List.set_cons_succ]
    refine HeldT.take (i := 9) (v := ?_) (by simp only [List.getElem?_toArray, List.getElem?_cons_succ, List.getElem?_cons_zero]; rfl) (by kernel_rfl) (by kernel_rfl) (by kernel_rfl) (by kernel_rfl) (by exact fun _ _ _ h => h) ?_ (by assumption) ?_
    rotate_left
    · refine Or.inl ⟨by rfl, ?_⟩
      (intro w hSw; (try dsimp only at hSw); go_simp; try with_reducible rfl)
    try simp only [Act.put, List.setIfInBounds_toArray, List.set_cons_zero, List.set_cons_succ]
    refine HeldT.take (i := 10) (v := ?_) (by simp only [List.getElem?_toArray, List.getElem?_cons_succ, List.getElem?_cons_zero]; rfl) (by kernel_rfl) (by kernel_rfl) (by kernel_rfl) (by kernel_rfl) (by exact fun _ _ _ h => h) ?_ (by assumption) ?_
    rotate_left
    · refine Or.inl ⟨by rfl, ?_⟩
      (intro w hSw; (try dsimp only at hSw); go_simp; try with_reducible rfl)
    try simp only [Act.put, List.setIfInBounds_toArray, List.set_cons_zero, List.set_cons_succ]
    refine HeldT.take (i := 11) (v := ?_) (by simp only [List.getElem?_toArray, List.getElem?_cons_succ, List.getElem?_cons_zero]; rfl) (by kernel_rfl) (by kernel_rfl) (by kernel_rfl) (by kernel_rfl) (by exact fun _ _ _ h => h) ?_ (by assumption) ?_
    rotate_left
    · refine Or.inl ⟨by rfl, ?_⟩
      (intro w hSw; (try dsimp only at hSw); go_simp; try with_reducible rfl)
    try simp only [Act.put, List.setIfInBounds_toArray, List.set_cons_zero, List.set_cons_succ]
    refine HeldT.take (i := 12) (v := ?_) (by simp only [List.getElem?_toArray, List.getElem?_cons_succ, List.getElem?_cons_zero]; rfl) (by kernel_rfl) (by kernel_rfl) (by kernel_rfl) (by kernel_rfl) (by exact fun _ _ _ h => h) ?_ (by assumption) ?_
    rotate_left
    · refine Or.inl ⟨by rfl, ?_⟩
      (intro w hSw; (try dsimp only at hSw); go_simp; try with_reducible rfl)
    try simp only [Act.put, List.setIfInBounds_toArray, List.set_cons_zero, List.set_cons_succ]
    refine HeldT.take (i := 13) (v := ?_) (by simp only [List.getElem?_toArray, List.getElem?_cons_succ, List.getElem?_cons_zero]; rfl) (by kernel_rfl) (by kernel_rfl) (by kernel_rfl) (by kernel_rfl) (by exact fun _ _ _ h => h) ?_ (by assumption) ?_
    rotate_left
    · refine Or.inl ⟨by rfl, ?_⟩
      (intro w hSw; (try dsimp only at hSw); go_simp; try with_reducible rfl)
    try simp only [Act.put, List.setIfInBounds_toArray, List.set_cons_zero, List.set_cons_succ]
    refine HeldT.take (i := 14) (v := ?_) (by simp only [List.getElem?_toArray, List.getElem?_cons_succ, List.getElem?_cons_zero]; rfl) (by kernel_rfl) (by kernel_rfl) (by kernel_rfl) (by kernel_rfl) (by exact fun _ _ _ h => h) ?_ (by assumption) ?_
    rotate_left
    · refine Or.inl ⟨by rfl, ?_⟩
      (intro w hSw; (try dsimp only at hSw); go_simp; try with_reducible rfl)
    try simp only [Act.put, List.setIfInBounds_toArray, List.set_cons_zero, List.set_cons_succ]
    refine HeldT.one (i := 1) (by simp only [List.getElem?_toArray, List.getElem?_cons_succ, List.getElem?_cons_zero]; rfl) (by kernel_rfl) (by kernel_rfl) (fun K hK => ?_)
    go_simp
    refine hK.out _ _ ?_ (fun hHeld => ?_)
    · (try dsimp only); first | done | (first | exact c0 | exact d0 | exact e0 | exact g0 | simp [go_sem, c0, sz])
    clear hK K
    try simp only [Act.put, List.setIfInBounds_toArray, List.set_cons_zero, List.set_cons_succ]
    refine HeldT.one (i := 8) (by simp only [List.getElem?_toArray, List.getElem?_cons_succ, List.getElem?_cons_zero]; rfl) (by kernel_rfl) (by kernel_rfl) (fun K hK => ?_)
    (refine step_append_run (by rfl) _ _ _ (by rfl) _ _ _ (by rfl) (by rfl) HR1.out ?_)
    refine hK.out _ _ ?_ (fun hHeld => ?_)
    · (try dsimp only); first | done | (first | exact c0 | exact d0 | exact e0 | exact g0 | simp [go_sem, c0, sz])
    clear hK K
    try simp only [Act.put, List.setIfInBounds_toArray, List.set_cons_zero, List.set_cons_succ]
    refine HeldT.one (i := 15) (by simp only [List.getElem?_toArray, List.getElem?_cons_succ, List.getElem?_cons_zero]; rfl) (by kernel_rfl) (by kernel_rfl) (fun K hK => ?_)
    (refine step_append_run (by rfl) _ _ _ (by rfl) _ _ _ (by rfl) (by rfl) HR2.out ?_)
    refine hK.out _ _ ?_ (fun hHeld => ?_)
    · (try dsimp only); first | done | (first | exact c0 | exact d0 | exact e0 | exact g0 | simp [go_sem, c0, sz])
    clear hK K
    try simp only [Act.put, List.setIfInBounds_toArray, List.set_cons_zero, List.set_cons_succ]
    refine HeldT.tail (by kernel_rfl) rfl ?_
    go_wp2_with fail
    go_returns
    exact ⟨rfl, ⟨_, _, _, _, HV3.out⟩, (K3.out.set _ _).set _ _⟩

theorem full_src {w : World} {eb : Nat} {S : Option Addr} {capS : Nat} {xs : List Int} (h : Rw w eb S xs) (hn : S = none → capS = 0) (hc : xs.length ≤ capS) : Src w S xs.length capS xs := by
  have := rw_src h hn hc 0 xs.length (by omega) (Nat.le_refl _)
  have hfa : fromA S capS 0 = S := by
    unfold fromA
    split
    · rfl
    · cases S <;> simp [Addr.add]
  rw [hfa] at this
  simpa using this

set_option maxRecDepth 100000 in
set_option maxHeartbeats 4000000 in
theorem ed_put (eb : Nat) (l : List Int) (k : Nat) (kept xs : List Int) (S : Option Addr) (capS : Nat) (w : World) (h : Ed w eb l k kept false false) (hk : k ≤ l.length) (hl : l.length ≤ 100000) (hx : xs.length ≤ 100000) (hS : Rw w eb S xs) (hSn : S = none → capS = 0) (hSc : xs.length ≤ capS) :
    Calls Tryd.prog 15 #[.pointer (some ⟨eb, 0, none⟩), .slice S xs.length capS] w (StepPost eb (l.take k ++ xs ++ l.drop k) (k + xs.length) kept w) := by
  obtain ⟨A, cap, B, cap2, hv⟩ := h
  have hvD : EdV w.drew eb l k kept false false A cap B cap2 := hv.same (Below.refl _ _).drew
  obtain ⟨A1, c1, w1, r1, o1, b1⟩ := copy_part w.drew hvD.r0 hvD.n0 hvD.lc hl hvD.sz 0 k (by omega) hk
  rw [Nat.sub_zero, Nat.sub_zero] at r1
  have hfa : fromA A cap 0 = A := by
    unfold fromA
    split
    · rfl
    · cases A <;> simp [Addr.add]
  rw [hfa] at r1
  rw [List.drop_zero] at o1
  have hlen1 : (l.take k).length = k := by simp; omega
  have b1' : Below w.heap.size w w1 := ((Below.refl _ _).drew).trans b1
  have hS1 : Rw w1 eb S xs := hS.kept b1'.size fun k hk _ => b1'.block k hk
  obtain ⟨A2, c2, w2, r2, o2, g2, _⟩ := run_append_row w1 w.heap.size A1 c1 (l.take k) o1 S xs.length capS xs (full_src hS1 hSn hSc) b1'.size (by simp; omega)
  rw [hlen1] at r2
  have b2 : Below w.heap.size w w2 := b1'.grown g2 b1'.size fun g hg => (o1.blk_lt hg).1
  have hvW : EdV w2.drew eb l k kept false false A cap B cap2 := hv.same b2.drew
  have o2' : Row w2.drew w.heap.size A2 c2 (l.take k ++ xs) := o2
  obtain ⟨A3, c3, w3, r3, o3, g3, _⟩ := run_append_row w2.drew w.heap.size A2 c2 (l.take k ++ xs) o2' _ _ _ _ (whole_src hvW.r0 hv.n0 hv.lc k hk) b2.size (by simp; omega)
  have b3 : Below w.heap.size w w3 := b2.drew.grown g3 b2.size fun g hg => (o2.blk_lt hg).1
  have hv3 := hv.same b3
  obtain ⟨p1, p2, p3⟩ := row_rw (eb := eb) o3 hv.sz
  have HV4 := Go.Lib.hid ((hv3.line p1 p2 p3).at (k + xs.length))
  have K4 : Hid (EdK eb w w3) := .of b3
  have s1 := up_run A l.length cap k (by have := hv.lc; omega)
  have s2 := from_run A l.length cap k hk
  have sz := hv.sz
  have c0 := hv.c0
  have c1' := hv.c1
  have d0 : (w.drew.alloc (.cells #[] 21)).cell? ⟨eb, 0, none⟩ = some (.slice A l.length cap) := (((Below.refl w.heap.size w).drew).alloc (Nat.le_refl _) _ |>.cell (p := ⟨eb, 0, none⟩) sz).trans c0
  have d1 : (w.drew.alloc (.cells #[] 21)).cell? ⟨eb, 1, none⟩ = some (.int .i64 (k : Nat)) := (((Below.refl w.heap.size w).drew).alloc (Nat.le_refl _) _ |>.cell (p := ⟨eb, 1, none⟩) sz).trans c1'
  have e0 := (b1'.cell (p := ⟨eb, 0, none⟩) sz).trans c0
  have e1 := (b1'.cell (p := ⟨eb, 1, none⟩) sz).trans c1'
  have i0 := (b2.cell (p := ⟨eb, 0, none⟩) sz).trans c0
  have i1 := (b2.cell (p := ⟨eb, 1, none⟩) sz).trans c1'
  have j0 := (b3.cell (p := ⟨eb, 0, none⟩) sz).trans c0
  have j1 := (b3.cell (p := ⟨eb, 1, none⟩) sz).trans c1'
  have f0 := hv3.f 0
  have f1 := hv3.f 1
  have z3 := hv3.sz
  have hlen2 : (l.take k ++ xs).length = k + xs.length := by simp; omega
  rw [hlen2] at r2 r3
  have hadd : IntKind.i64.wrap ((k : Int) + (xs.length : Int)) = ((k + xs.length : Nat) : Int) := by rw [IntWalk.i64_in _ (by omega)]; omega
  obtain ⟨n4, hn4⟩ : ∃ n4, n4 = (l.take k ++ xs ++ l.drop k).length := ⟨_, rfl⟩
  rw [← hn4] at r3 HV4
  obtain ⟨m, hm⟩ : ∃ m, m = k + xs.length := ⟨_, rfl⟩
  rw [← hm] at r2 r3 HV4 hadd ⊢
  have R1 := Go.Lib.hid r1
  have R2 := Go.Lib.hid r2
  have R3 := Go.Lib.hid r3
  clear hv hvD r1 r2 r3 o1 o2 o2' o3 b1 b1' b2 b3 g2 g3 hS hS1 hSn hSc hvW hv3 p1 p2 p3 hlen1 hlen2 hn4 hm hfa
  go_enter Tryd.func15, Tryd.ntmps15
  go_wp2_with fail
  refine region_held_tail 11 (S := (fun w' => w'.cell? ⟨eb, 0, none⟩ = some (.slice A l.length cap) ∧ w'.cell? ⟨eb, 1, none⟩ = some (.int .i64 (k : Nat)))) (by kernel_rfl) (by kernel_rfl) ?_ (fun hHeld => ?_)
  · (try dsimp only); first | done | (first | exact ⟨c0, c1'⟩ | exact ⟨d0, d1⟩ | exact ⟨e0, e1⟩ | simp [go_sem, c0, c1', sz])
  refine HeldT.take (i := 1) (v := ?_) (by simp only [List.getElem?_toArray, List.getElem?_cons_succ, List.getElem?_cons_zero]; rfl) (by kernel_rfl) (by kernel_rfl) (by kernel_rfl) (by kernel_rfl) (by exact fun _ _ _ h => h) ?_ (by assumption) ?_
  rotate_left
  · refine Or.inl ⟨by rfl, ?_⟩
    (intro w hSw; (try dsimp only at hSw); go_simp; try with_reducible rfl)
  try simp only [Act.put, List.setIfInBounds_toArray, List.set_cons_zero, List.set_cons_succ]
  refine HeldT.take (i := 2) (v := ?_) (by simp only [List.getElem?_toArray, List.getElem?_cons_succ, List.getElem?_cons_zero]; rfl) (by kernel_rfl) (by kernel_rfl) (by kernel_rfl) (by kernel_rfl) (by exact fun _ _ _ h => h) ?_ (by assumption) ?_
  rotate_left
  · refine Or.inl ⟨by rfl, ?_⟩
    (intro w hSw; (try dsimp only at hSw); go_simp; try with_reducible rfl)
  try simp only [Act.put, List.setIfInBounds_toArray, List.set_cons_zero, List.set_cons_succ]
  refine HeldT.take (i := 3) (v := ?_) (by simp only [List.getElem?_toArray, List.getElem?_cons_succ, List.getElem?_cons_zero]; rfl) (by kernel_rfl) (by kernel_rfl) (by kernel_rfl) (by kernel_rfl) (by exact fun _ _ _ h => h) ?_ (by assumption) ?_
  rotate_left
  · refine Or.inl ⟨by rfl, ?_⟩
    (intro w hSw; (try dsimp only at hSw); go_simp; try with_reducible rfl)
  try simp only [Act.put, List.setIfInBounds_toArray, List.set_cons_zero, List.set_cons_succ]
  refine HeldT.take (i := 4) (v := ?_) (by simp only [List.getElem?_toArray, List.getElem?_cons_succ, List.getElem?_cons_zero]; rfl) (by kernel_rfl) (by kernel_rfl) (by kernel_rfl) (by kernel_rfl) (by exact fun _ _ _ h => h) ?_ (by assumption) ?_
  rotate_left
  · refine Or.inl ⟨by rfl, ?_⟩
    (intro w hSw; (try dsimp only at hSw); go_simp; try with_reducible rfl)
  try simp only [Act.put, List.setIfInBounds_toArray, List.set_cons_zero, List.set_cons_succ]
  refine HeldT.take (i := 5) (v := ?_) (by simp only [List.getElem?_toArray, List.getElem?_cons_succ, List.getElem?_cons_zero]; rfl) (by kernel_rfl) (by kernel_rfl) (by kernel_rfl) (by kernel_rfl) (by exact fun _ _ _ h => h) ?_ (by assumption) ?_
  rotate_left
  · refine Or.inl ⟨by rfl, ?_⟩
    (intro w hSw; (try dsimp only at hSw); go_simp; try with_reducible rfl)
  try simp only [Act.put, List.setIfInBounds_toArray, List.set_cons_zero, List.set_cons_succ]
  refine HeldT.take (i := 6) (v := ?_) (by simp only [List.getElem?_toArray, List.getElem?_cons_succ, List.getElem?_cons_zero]; rfl) (by kernel_rfl) (by kernel_rfl) (by kernel_rfl) (by kernel_rfl) (by exact fun _ _ _ h => h) ?_ (by assumption) ?_
  rotate_left
  · refine Or.inl ⟨by rfl, ?_⟩
    (intro w hSw; (try dsimp only at hSw); go_simp; try with_reducible rfl)
  try simp only [Act.put, List.setIfInBounds_toArray, List.set_cons_zero, List.set_cons_succ]
  refine HeldT.take (i := 7) (v := ?_) (by simp only [List.getElem?_toArray, List.getElem?_cons_succ, List.getElem?_cons_zero]; rfl) (by kernel_rfl) (by kernel_rfl) (by kernel_rfl) (by kernel_rfl) (by exact fun _ _ _ h => h) ?_ (by assumption) ?_
  rotate_left
  · refine Or.inl ⟨by rfl, ?_⟩
    (intro w hSw; (try dsimp only at hSw); go_simp; try with_reducible rfl)
  try simp only [Act.put, List.setIfInBounds_toArray, List.set_cons_zero, List.set_cons_succ]
  refine HeldT.take (i := 8) (v := ?_) (by simp only [List.getElem?_toArray, List.getElem?_cons_succ, List.getElem?_cons_zero]; rfl) (by kernel_rfl) (by kernel_rfl) (by kernel_rfl) (by kernel_rfl) (by exact fun _ _ _ h => h) ?_ (by assumption) ?_
  rotate_left
  · refine Or.inl ⟨by rfl, ?_⟩
    (intro w hSw; (try dsimp only at hSw); go_simp; try with_reducible rfl)
  try simp only [Act.put, List.setIfInBounds_toArray, List.set_cons_zero, List.set_cons_succ]
  refine HeldT.take (i := 9) (v := ?_) (by simp only [List.getElem?_toArray, List.getElem?_cons_succ, List.getElem?_cons_zero]; rfl) (by kernel_rfl) (by kernel_rfl) (by kernel_rfl) (by kernel_rfl) (by exact fun _ _ _ h => h) ?_ (by assumption) ?_
  rotate_left
  · refine Or.inl ⟨by rfl, ?_⟩
    (intro w hSw; (try dsimp only at hSw); go_simp; try with_reducible rfl)
  try simp only [Act.put, List.setIfInBounds_toArray, List.set_cons_zero, List.set_cons_succ]
  refine HeldT.one (i := 0) (by simp only [List.getElem?_toArray, List.getElem?_cons_succ, List.getElem?_cons_zero]; rfl) (by kernel_rfl) (by kernel_rfl) (fun K hK => ?_)
  go_simp
  refine hK.out _ _ ?_ (fun hHeld => ?_)
  · (try dsimp only); first | done | (first | exact ⟨c0, c1'⟩ | exact ⟨d0, d1⟩ | exact ⟨e0, e1⟩ | simp [go_sem, c0, c1', sz])
  clear hK K
  try simp only [Act.put, List.setIfInBounds_toArray, List.set_cons_zero, List.set_cons_succ]
  refine HeldT.one (i := 10) (by simp only [List.getElem?_toArray, List.getElem?_cons_succ, List.getElem?_cons_zero]; rfl) (by kernel_rfl) (by kernel_rfl) (fun K hK => ?_)
  (refine step_append_run (by rfl) _ _ _ (by rfl) _ _ _ (by rfl) (by rfl) R1.out ?_)
  refine hK.out _ _ ?_ (fun hHeld => ?_)
  · (try dsimp only); first | done | (first | exact ⟨c0, c1'⟩ | exact ⟨d0, d1⟩ | exact ⟨e0, e1⟩ | simp [go_sem, c0, c1', sz])
  clear hK K
  try simp only [Act.put, List.setIfInBounds_toArray, List.set_cons_zero, List.set_cons_succ]
  refine HeldT.tail (by kernel_rfl) rfl ?_
  clear hHeld
  go_wp2_with (at_builtin; refine wpList_append_run rfl _ _ 38 rfl _ _ _ rfl rfl R2.out ?_)
  refine region_held_tail 12 (S := (fun w' => w'.cell? ⟨eb, 0, none⟩ = some (.slice A l.length cap) ∧ w'.cell? ⟨eb, 1, none⟩ = some (.int .i64 (k : Nat)))) (by kernel_rfl) (by kernel_rfl) ?_ (fun hHeld => ?_)
  · (try dsimp only); first | done | (first | exact ⟨i0, i1⟩ | exact ⟨j0, j1⟩)
  refine HeldT.take (i := 0) (v := ?_) (by simp only [List.getElem?_toArray, List.getElem?_cons_succ, List.getElem?_cons_zero]; rfl) (by kernel_rfl) (by kernel_rfl) (by kernel_rfl) (by kernel_rfl) (by exact fun _ _ _ h => h) ?_ (by assumption) ?_
  rotate_left
  · refine Or.inl ⟨by rfl, ?_⟩
    (intro w hSw; (try dsimp only at hSw); go_simp; try with_reducible rfl)
  try simp only [Act.put, List.setIfInBounds_toArray, List.set_cons_zero, List.set_cons_succ]
  refine HeldT.take (i := 1) (v := ?_) (by simp only [List.getElem?_toArray, List.getElem?_cons_succ, List.getElem?_cons_zero]; rfl) (by kernel_rfl) (by kernel_rfl) (by kernel_rfl) (by kernel_rfl) (by exact fun _ _ _ h => h) ?_ (by assumption) ?_
  rotate_left
  · refine Or.inl ⟨by rfl, ?_⟩
    (intro w hSw; (try dsimp only at hSw); go_simp; try with_reducible rfl)
  try simp only [Act.put, List.setIfInBounds_toArray, List.set_cons_zero, List.set_cons_succ]
  refine HeldT.take (i := 2) (v := ?_) (by simp only [List.getElem?_toArray, List.getElem?_cons_succ, List.getElem?_cons_zero]; rfl) (by kernel_rfl) (by kernel_rfl) (by kernel_rfl) (by kernel_rfl) (by exact fun _ _ _ h => h) ?_ (by assumption) ?_
  rotate_left
  · refine Or.inl ⟨by rfl, ?_⟩
    (intro w hSw; (try dsimp only at hSw); go_simp; try with_reducible rfl)
  try simp only [Act.put, List.setIfInBounds_toArray, List.set_cons_zero, List.set_cons_succ]
  refine HeldT.take (i := 3) (v := ?_) (by simp only [List.getElem?_toArray, List.getElem?_cons_succ, List.getElem?_cons_zero]; rfl) (by kernel_rfl) (by kernel_rfl) (by kernel_rfl) (by kernel_rfl) (by exact fun _ _ _ h => h) ?_ (by assumption) ?_
  rotate_left
  · refine Or.inl ⟨by rfl, ?_⟩
    (intro w hSw; (try dsimp only at hSw); go_simp; try with_reducible rfl)
  try simp only [Act.put, List.setIfInBounds_toArray, List.set_cons_zero, List.set_cons_succ]
  refine HeldT.take (i := 4) (v := ?_) (by simp only [List.getElem?_toArray, List.getElem?_cons_succ, List.getElem?_cons_zero]; rfl) (by kernel_rfl) (by kernel_rfl) (by kernel_rfl) (by kernel_rfl) (by exact fun _ _ _ h => h) ?_ (by assumption) ?_
  rotate_left
  · refine Or.inl ⟨by rfl, ?_⟩
    (intro w hSw; (try dsimp only at hSw); go_simp; try with_reducible rfl)
  try simp only [Act.put, List.setIfInBounds_toArray, List.set_cons_zero, List.set_cons_succ]
  refine HeldT.take (i := 5) (v := ?_) (by simp only [List.getElem?_toArray, List.getElem?_cons_succ, List.getElem?_cons_zero]; rfl) (by kernel_rfl) (by kernel_rfl) (by kernel_rfl) (by kernel_rfl) (by exact fun _ _ _ h => h) ?_ (by assumption) ?_
  rotate_left
  · refine Or.inl ⟨by rfl, ?_⟩
    (intro w hSw; (try dsimp only at hSw); go_simp; try with_reducible rfl)
  try simp only [Act.put, List.setIfInBounds_toArray, List.set_cons_zero, List.set_cons_succ]
  refine HeldT.take (i := 6) (v := ?_) (by simp only [List.getElem?_toArray, List.getElem?_cons_succ, List.getElem?_cons_zero]; rfl) (by kernel_rfl) (by kernel_rfl) (by kernel_rfl) (by kernel_rfl) (by exact fun _ _ _ h => h) ?_ (by assumption) ?_
  rotate_left
  · refine Or.inl ⟨by rfl, ?_⟩
    (intro w hSw; (try dsimp only at hSw); go_simp; try with_reducible rfl)
  try simp only [Act.put, List.setIfInBounds_toArray, List.set_cons_zero, List.set_cons_succ]
  refine HeldT.take (i := 7) (v := ?_) (by simp only [List.getElem?_toArray, List.getElem?_cons_succ, List.getElem?_cons_zero]; rfl) (by kernel_rfl) (by kernel_rfl) (by kernel_rfl) (by kernel_rfl) (by exact fun _ _ _ h => h) ?_ (by assumption) ?_
  rotate_left
  · refine Or.inl ⟨by rfl, ?_⟩
    (intro w hSw; (try dsimp only at hSw); go_simp; try with_reducible rfl)
  try simp only [Act.put, List.setIfInBounds_toArray, List.set_cons_zero, List.set_cons_succ]
  refine HeldT.take (i := 8) (v := ?_) (by simp only [List.getElem?_toArray, List.getElem?_cons_succ, List.getElem?_cons_zero]; rfl) (by kernel_rfl) (by kernel_rfl) (by kernel_rfl) (by kernel_rfl) (by exact fun _ _ _ h => h) ?_ (by assumption) ?_
  rotate_left
  · refine Or.inl ⟨by rfl, ?_⟩
    (intro w hSw; (try dsimp only at hSw); go_simp; try with_reducible rfl)
  try simp only [Act.put, List.setIfInBounds_toArray, List.set_cons_zero, List.set_cons_succ]
  refine HeldT.take (i := 9) (v := ?_) (by simp only [List.getElem?_toArray, List.getElem?_cons_succ, List.getElem?_cons_zero]; rfl) (by kernel_rfl) (by kernel_rfl) (by kernel_rfl) (by kernel_rfl) (by exact fun _ _ _ h => h) ?_ (by assumption) ?_
  rotate_left
  · refine Or.inl ⟨by rfl, ?_⟩
    (intro w hSw; (try dsimp only at hSw); go_simp; try with_reducible rfl)
  try simp only [Act.put, List.setIfInBounds_toArray, List.set_cons_zero, List.set_cons_succ]
  refine HeldT.take (i := 10) (v := ?_) (by simp only [List.getElem?_toArray, List.getElem?_cons_succ, List.getElem?_cons_zero]; rfl) (by kernel_rfl) (by kernel_rfl) (by kernel_rfl) (by kernel_rfl) (by exact fun _ _ _ h => h) ?_ (by assumption) ?_
  rotate_left
  · refine Or.inl ⟨by rfl, ?_⟩
    (intro w hSw; (try dsimp only at hSw); go_simp; try with_reducible rfl)
  try simp only [Act.put, List.setIfInBounds_toArray, List.set_cons_zero, List.set_cons_succ]
  refine HeldT.one (i := 11) (by simp only [List.getElem?_toArray, List.getElem?_cons_succ, List.getElem?_cons_zero]; rfl) (by kernel_rfl) (by kernel_rfl) (fun K hK => ?_)
  (refine step_append_run (by rfl) _ _ _ (by rfl) _ _ _ (by rfl) (by rfl) R3.out ?_)
  refine hK.out _ _ ?_ (fun hHeld => ?_)
  · (try dsimp only); first | done | (first | exact ⟨i0, i1⟩ | exact ⟨j0, j1⟩)
  clear hK K
  try simp only [Act.put, List.setIfInBounds_toArray, List.set_cons_zero, List.set_cons_succ]
  refine HeldT.tail (by kernel_rfl) rfl ?_
  clear hHeld
  go_wp2_with fail
  go_returns
  exact ⟨rfl, ⟨_, _, _, _, HV4.out⟩, (K4.out.set _ _).set _ _⟩
end Go.Proofs.YtoimdbmjpkmkfaaDoor
