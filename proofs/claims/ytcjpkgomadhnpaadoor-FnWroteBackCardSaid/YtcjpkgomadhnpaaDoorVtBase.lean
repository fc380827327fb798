/- A writer of terminal sequences: what it holds; WriteRaw. -/
import Derived.Test.YtcjpkgomadhnpaaDoorVtRow
import Derived.Laws.IdiomStrings
import Derived.Lib.LaidTab
import Derived.Lib.ItoaNum
import Derived.Sort.Grow
import Derived.LaidSub
import Derived.Carry
import Derived.WideKeyArgs
namespace Go.Proofs.YtcjpkgomadhnpaaDoor
open Go.RowKit
set_option linter.unusedVariables false
set_option linter.unusedSimpArgs false

def nums (l : List UInt8) : List Int := l.map fun b => (b.toNat : Int)
theorem nums_append (a b : List UInt8) : nums (a ++ b) = nums a ++ nums b := by simp [nums]
theorem nums_len (a : List UInt8) : (nums a).length = a.length := by simp [nums]
/-- The text of some bytes. -/
def strB (l : List UInt8) : ByteArray := ⟨l.toArray⟩

/-- A writer in block vb that holds some bytes. -/
structure VTv (w : World) (vb : Nat) (l : List UInt8) (A : Option Addr) (cap : Nat) : Prop where
  c : w.cell? ⟨vb, 0, none⟩ = some (.slice A l.length cap)
  r : BRow w (vb + 1) A cap (nums l)
  f : w.frozen? ⟨vb, 0, none⟩ = false
  sz : vb < w.heap.size
  ni : ¬ U8B w vb
def VT (w : World) (vb : Nat) (l : List UInt8) : Prop := ∃ A cap, VTv w vb l A cap
theorem VTv.same {w w' : World} {vb : Nat} {l : List UInt8} {A : Option Addr} {cap : Nat} (h : VTv w vb l A cap) (hz : w.heap.size ≤ w'.heap.size) (hk : ∀ k, k < w.heap.size → (k = vb ∨ (vb < k ∧ U8B w k)) → w'.heap[k]? = w.heap[k]?) : VTv w' vb l A cap := by
  have e := hk vb h.sz (.inl rfl)
  exact ⟨(World.cell?_of_block (w := w) e).trans h.c, h.r.kept fun k h1 h2 h3 _ => hk k h2 (.inr ⟨by omega, h3⟩), (World.frozen?_of_block (w := w) e).trans h.f, by have := h.sz; omega, fun h' => h.ni (h'.of e.symm)⟩
theorem VT.below {w w' : World} {vb : Nat} {l : List UInt8} (h : VT w vb l) (hb : Below w.heap.size w w') : VT w' vb l := by
  obtain ⟨A, cap, h⟩ := h
  exact ⟨A, cap, h.same hb.size fun k hk _ => hb.block k hk⟩

/-- A slice of bytes that is read. -/
theorem src_cells {w : World} {b off : Nat} {c : Nat} {l : List UInt8} (h : ∀ j (hj : j < l.length), w.cell? ⟨b, off + j, none⟩ = some (.int .u8 (l[j].toNat : Int))) : BSrc w (some ⟨b, off, none⟩) l.length c (nums l) := by
  refine ⟨(nums_len l).symm, .inr ⟨_, rfl, fun j u hu => ?_⟩⟩
  have hj : j < l.length := by have := (List.getElem?_eq_some_iff.1 hu).1; simpa [u8s, nums] using this
  have e : (⟨b, off, none⟩ : Addr).add j = ⟨b, off + j, none⟩ := by
    unfold Addr.add
    by_cases e : j = 0
    · rw [if_pos e, e]; rfl
    · rw [if_neg e]
  rw [e, h j hj, ← hu]
  simp [u8s, nums, hj]

theorem u8_setCell {w : World} {a : Addr} {v : Value} {k : Nat} (h : U8B (w.setCell a v) k) : U8B w k := by
  obtain ⟨cur, fr, h⟩ := h
  by_cases e : k = a.block
  · subst e
    simp only [World.setCell, Array.getElem?_modify, if_true] at h
    cases hx : w.heap[a.block]? with
    | none => rw [hx] at h; simp at h
    | some o =>
      rw [hx] at h
      cases o <;> simp at h
      obtain ⟨_, rfl, _⟩ := h
      exact ⟨_, _, hx⟩
  · rw [Below.heap_setCell _ _ _ _ e] at h
    exact ⟨cur, fr, h⟩
theorem BRow.setB {w : World} {rb : Nat} {A : Option Addr} {cap : Nat} {l : List Int} (h : BRow w (rb + 1) A cap l) (o : Nat) (u : Value) : BRow (w.setCell ⟨rb, o, none⟩ u) (rb + 1) A cap l :=
  h.kept fun k h1 _ _ _ => Below.heap_setCell _ _ _ _ (by show k ≠ rb; omega)

theorem wpList_append_runB {P : Program} {ops : Array Oper} {rest : List Oper} {o : Oper} {a : Act} {w w' : World} {Q : Exit → Act → World → Prop} (hg : o.guard = none) (s x : Operand) (t : TypeId)
    (hop : o.op = .call { callee := .builtin .append, args := #[s, x], argTypes := #[t, t] }) (v1 v2 v : Value) (hs : a.eval s = v1) (hx : a.eval x = v2)
    (hrun : (Builtin.append_ #[t, t] o.type #[v1, v2]).run P w = .ok v w') (h : wpList P ops Q rest (a.put o.dst v) w') : wpList P ops Q (o :: rest) a w :=
  wpList_plain hg fun K hK => by
    unfold Oper.wp
    simp [execOp, hop, resolve, invoke, builtin, hs, hx, hrun, Result.andThen]
    exact hK _ _ h

theorem writeRaw_any (vb : Nat) (l xs : List UInt8) (B : Option Addr) (c : Nat) (w : World) (h : VT w vb l) (hs : BSrc w B xs.length c (nums xs)) (hl : l.length + xs.length ≤ 1000000) :
    Calls Tryd.prog 18 #[.pointer (some ⟨vb, 0, none⟩), .slice B xs.length c] w fun e w' => e = .returned (.tuple #[]) ∧ (VT w' vb (l ++ xs) ∧ OwnB vb w w') := by
  obtain ⟨A, cap, hv⟩ := h
  have hc := hv.c
  obtain ⟨A', cap', w1, hrun, hrow, hgr, hblk⟩ := run_append_rowB w (vb + 1) A cap (nums l) hv.r B xs.length c (nums xs) hs (by have := hv.sz; omega) (by rw [nums_len, nums_len]; exact hl)
  rw [nums_len, ← nums_append, nums_len] at hrun
  rw [← nums_append] at hrow
  have hbl : ∀ g, blkB A = some g → vb + 1 ≤ g ∧ U8B w g := fun g hg => ⟨(hv.r.blk_lt hg).1, (hv.r.blk_lt hg).2.2⟩
  have hne : blkB A ≠ some vb := fun e => by have := (hbl vb e).1; omega
  have ee : w1.heap[vb]? = w.heap[vb]? := hgr.block vb hv.sz (fun e => hne e.symm)
  have c1 : w1.cell? ⟨vb, 0, none⟩ = some (.slice A l.length cap) := (World.cell?_of_block (w := w) ee).trans hc
  have f1 : w1.frozen? ⟨vb, 0, none⟩ = false := (World.frozen?_of_block (w := w) ee).trans hv.f
  have z1 : vb < w1.heap.size := Nat.lt_of_lt_of_le hv.sz hgr.size
  have n1 : ¬ U8B w1 vb := fun h' => hv.ni (h'.of ee.symm)
  have OW : Hid (OwnB vb w w1) := (OwnB.refl vb w).grown hgr fun k hk => ⟨by have := (hbl k hk).1; omega, (hbl k hk).2⟩
  have HRUN := Go.Lib.hid hrun
  have HROW := Go.Lib.hid hrow
  have N1 := Go.Lib.hid n1
  obtain ⟨n2, hn2⟩ : ∃ n2, n2 = (l ++ xs).length := ⟨_, rfl⟩
  rw [← hn2] at HRUN
  have HN2 := Go.Lib.hid hn2
  clear hv hrun hrow hgr hblk hbl hne ee n1 hn2
  go_enter Tryd.func18, Tryd.ntmps18
  go_wp2_with (at_builtin; refine wpList_append_runB rfl _ _ 29 rfl _ _ _ rfl rfl HRUN.out ?_)
  go_returns
  refine ⟨rfl, ⟨A', cap', ?_⟩, OW.out.set _ _⟩
  refine ⟨?_, BRow.setB HROW.out _ _, ?_, ?_, fun h' => N1.out (u8_setCell h')⟩
  · rw [← HN2.out]; exact World.cell?_setCell_same' _ _ _ (by rw [c1]; rfl)
  · rw [World.frozen?_setCell]; exact f1
  · simpa [World.setCell] using z1
end Go.Proofs.YtcjpkgomadhnpaaDoor
