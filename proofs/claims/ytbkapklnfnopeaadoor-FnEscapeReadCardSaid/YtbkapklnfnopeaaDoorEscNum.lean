/- unicode.IsNumber at ASCII; readline.zzReader.ReadRune. -/
import Derived.Test.YtbkapklnfnopeaaDoorEscapeSpec2
import Derived.Lib.LaidTab
import Derived.Lib.Props
namespace Go.Proofs.YtbkapklnfnopeaaDoor
open Go.RowKit
set_option linter.unusedVariables false
set_option linter.unusedSimpArgs false

def isNum (z : Nat) : Bool := decide (48 ≤ z ∧ z ≤ 57)
theorem num_bits : ∀ c : Fin 128, (bits .and .u8 (Lib.propertiesTab.getD c.val 0) 4 != 0) = isNum c.val := by decide +kernel

def Props (w : World) : Prop := Lib.TabIs Tryd.prog w "unicode.properties" .u8 Lib.propertiesTab

/-- The table's cells. -/
def PC (w : World) : Prop := 0 < w.heap.size ∧ ∀ z, z < 128 → w.cell? ⟨0, z, none⟩ = some (.int .u8 (Lib.propertiesTab.getD z 0))
theorem PC.of {w w' : World} (h : PC w) (e : w'.heap[0]? = w.heap[0]?) (hz : w.heap.size ≤ w'.heap.size) : PC w' := ⟨by have := h.1; omega, fun z hz => (World.cell?_of_block (w := w) e).trans (h.2 z hz)⟩
theorem Props.cells {w : World} (h : Props w) : PC w := by
  have hc : ∀ z, z < 128 → w.cell? ⟨0, z, none⟩ = some (.int .u8 (Lib.propertiesTab.getD z 0)) := fun z hz => Lib.TabIs.cell h (by kernel_rfl) z (by rw [Lib.propertiesTab_length]; omega)
  exact ⟨World.block_lt_of_cell? (a := ⟨0, 0, none⟩) _ (hc 0 (by decide)), hc⟩

theorem isnum_any (z : Nat) (hz : z < 128) (w : World) (htab : PC w) : Calls Tryd.prog 12 #[.int .i32 z] w fun e w' => e = .returned (.bool (isNum z)) ∧ w = w' := by
  have hcell := htab.2 z hz
  have hb := num_bits ⟨z, hz⟩
  simp only at hb
  generalize Lib.propertiesTab.getD z 0 = pv at hcell hb
  generalize hq : bits .and .u8 pv 4 = q at hb
  have h32 : IntKind.u32.wrap (z : Int) = z := by first | (rw [IntKind.wrap_u32]; omega) | (simp [IntKind.wrap]; omega)
  have h8 : IntKind.u8.wrap (z : Int) = z := by rw [IntKind.wrap_u8]; omega
  have hz1 : (z : Int) ≤ 255 := by omega
  have hz2 : (z : Int) < 256 := by omega
  generalize isNum z = r at hb
  clear htab
  go_enter Tryd.func12, Tryd.ntmps12
  go_wp2_with fail
  go_returns
  exact ⟨rfl, rfl⟩

/-- A reader of code points in a block. -/
structure Rd (w : World) (rd b : Nat) (zs : List Int) (cap k : Nat) : Prop where
  c0 : w.cell? ⟨rd, 0, none⟩ = some (.slice (some ⟨b, 0, none⟩) zs.length cap)
  c1 : w.cell? ⟨rd, 1, none⟩ = some (.int .i64 (k : Nat))
  c2 : ∃ u, w.cell? ⟨rd, 2, none⟩ = some (.bool u)
  f : ∀ j, w.frozen? ⟨rd, j, none⟩ = false
  row : ∀ j, j < zs.length → w.cell? ⟨b, j, none⟩ = some (.int .i32 (nth zs j))
  ne : b ≠ rd
  lt : rd < w.heap.size
  ltb : b < w.heap.size
theorem Rd.of {w w' : World} {rd b : Nat} {zs : List Int} {cap k : Nat} (h : Rd w rd b zs cap k) (e1 : w'.heap[rd]? = w.heap[rd]?) (e2 : w'.heap[b]? = w.heap[b]?) (hz : w.heap.size ≤ w'.heap.size) : Rd w' rd b zs cap k := by
  have c : ∀ j, w'.cell? ⟨rd, j, none⟩ = w.cell? ⟨rd, j, none⟩ := fun j => World.cell?_of_block (w := w) e1
  obtain ⟨u, hu⟩ := h.c2
  exact ⟨(c 0).trans h.c0, (c 1).trans h.c1, ⟨u, (c 2).trans hu⟩, fun j => (World.frozen?_of_block (w := w) e1).trans (h.f j), fun j hj => (World.cell?_of_block (w := w) e2).trans (h.row j hj), h.ne, by have := h.lt; omega, by have := h.ltb; omega⟩

/-- All but a block is as it was. -/
structure OnlyB (rd : Nat) (w w' : World) : Prop where
  os : w'.os = w.os
  tape : w'.tape = w.tape
  output : w'.output = w.output
  size : w'.heap.size = w.heap.size
  rest : ∀ k, k ≠ rd → w'.heap[k]? = w.heap[k]?
theorem OnlyB.refl (rd : Nat) (w : World) : OnlyB rd w w := ⟨rfl, rfl, rfl, rfl, fun _ _ => rfl⟩
theorem OnlyB.set {rd : Nat} {a w : World} (h : OnlyB rd a w) (o : Nat) (u : Value) : OnlyB rd a (w.setCell ⟨rd, o, none⟩ u) :=
  ⟨h.os, h.tape, h.output, by simpa [World.setCell] using h.size, fun k hk => (Below.heap_setCell _ _ _ _ (show k ≠ rd from hk)).trans (h.rest k hk)⟩
theorem OnlyB.drewN {rd : Nat} {a w : World} (h : OnlyB rd a w) (n : Nat) : OnlyB rd a (w.drewN n) := by
  have hb := below_drewN (Below.refl w.heap.size w) n
  have hz : (w.drewN n).heap = w.heap := by simp [World.drewN]
  exact ⟨hb.os.trans h.os, hb.tape.trans h.tape, hb.output.trans h.output, by rw [hz]; exact h.size, fun k hk => by rw [hz]; exact h.rest k hk⟩
theorem OnlyB.drew {rd : Nat} {a w : World} (h : OnlyB rd a w) : OnlyB rd a w.drew := ⟨h.os, h.tape, h.output, h.size, h.rest⟩
end Go.Proofs.YtbkapklnfnopeaaDoor
