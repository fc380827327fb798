/- impl.Columned. -/
import Derived.Test.YtjdphehphceegaaColForm
import Derived.Test.YtjdphehphceegaaCaught
namespace Go.Proofs.Ytjdphehphceegaa
open Go.RowKit
set_option linter.unusedVariables false
set_option linter.unusedSimpArgs false

/-- The variables that the closure is handed. -/
structure SixAt (w : World) (b : Nat) (a : Option Addr) (cap most : Nat) (ss : List ByteArray) (p q : ByteArray) : Prop where
  c0 : w.cell? ⟨b, 0, none⟩ = some (.slice a ss.length cap)
  c1 : w.cell? ⟨b + 1, 0, none⟩ = some (.int .i64 (most : Nat))
  c2 : w.cell? ⟨b + 2, 0, none⟩ = some (.string p)
  c3 : w.cell? ⟨b + 3, 0, none⟩ = some (.string q)
  c4 : w.cell? ⟨b + 4, 0, none⟩ = some (.slice none 0 0)
  c5 : w.cell? ⟨b + 5, 0, none⟩ = some (.int .i64 0)
  f4 : w.frozen? ⟨b + 4, 0, none⟩ = false
  f5 : w.frozen? ⟨b + 5, 0, none⟩ = false
  lt : b + 5 < w.heap.size
theorem SixAt.below {w w' : World} {b : Nat} {a : Option Addr} {cap most : Nat} {ss : List ByteArray} {p q : ByteArray} (h : SixAt w b a cap most ss p q) (k : Below w.heap.size w w') : SixAt w' b a cap most ss p q := by
  have hl := h.lt
  exact ⟨(k.cell (p := ⟨b, 0, none⟩) (by show b < _; omega)).trans h.c0, (k.cell (p := ⟨b + 1, 0, none⟩) (by show b + 1 < _; omega)).trans h.c1, (k.cell (p := ⟨b + 2, 0, none⟩) (by show b + 2 < _; omega)).trans h.c2,
    (k.cell (p := ⟨b + 3, 0, none⟩) (by show b + 3 < _; omega)).trans h.c3, (k.cell (p := ⟨b + 4, 0, none⟩) (by show b + 4 < _; omega)).trans h.c4, (k.cell (p := ⟨b + 5, 0, none⟩) (by show b + 5 < _; omega)).trans h.c5,
    (k.frozen (p := ⟨b + 4, 0, none⟩) (by show b + 4 < _; omega)).trans h.f4, (k.frozen (p := ⟨b + 5, 0, none⟩) (by show b + 5 < _; omega)).trans h.f5, Nat.lt_of_lt_of_le hl k.size⟩

def ClCol (n : Nat) (R : Nat → ByteArray) (Z : Nat) (r c : Addr) (w : World) (e : Ending) (w' : World) : Prop :=
  e = .returned (.tuple #[]) ∧ ∃ nb W, w.heap.size ≤ nb ∧ StrFn W nb 0 n R ∧ Below w.heap.size w W ∧ w' = (W.setCell r (.slice (some ⟨nb, 0, none⟩) n n)).setCell c (.int .i64 (Z : Nat))

theorem closure_col (a : Option Addr) (b cap most : Nat) (ss : List ByteArray) (p q : ByteArray) (w : World) (h : IsStrs w a ss) (hv : SixAt w b a cap most ss p q) (hn : ss.length ≤ 12) (hX : ∀ j, j < ss.length → (txt ss j).size ≤ 100 ∧ Prt (clean (txt ss j)))
    (hp : Prt p) (hq : Prt q) (hps : p.size + q.size ≤ 20) (hm : most ≤ 100) :
    Calls Try.prog 10 #[.pointer (some ⟨b, 0, none⟩), .pointer (some ⟨b + 1, 0, none⟩), .pointer (some ⟨b + 2, 0, none⟩), .pointer (some ⟨b + 3, 0, none⟩), .pointer (some ⟨b + 4, 0, none⟩), .pointer (some ⟨b + 5, 0, none⟩)] w
      (ClCol ss.length (fmtR ss most p q) (fmtZ ss most p q) ⟨b + 4, 0, none⟩ ⟨b + 5, 0, none⟩ w) := by
  have HC := Go.Lib.hid (form_any a cap most ss p q w h hn hX hp hq hps hm)
  obtain ⟨c0, c1, c2, c3, c4, c5, f4, f5, hlt⟩ := hv
  generalize fmtR ss most p q = R at HC ⊢
  generalize fmtZ ss most p q = Z at HC ⊢
  generalize ss.length = n at *
  clear h hX hp hq hps hm
  go_enter Try.func10, Try.ntmps10
  go_wp2_with fail
  refine HC.out.mono ?_
  rintro e w1 ⟨nb, rfl, hnb, hrow, hb⟩
  have HR := Go.Lib.hid hrow
  have HB := Go.Lib.hid hb
  have k4 := (hb.cell (p := ⟨b + 4, 0, none⟩) (by show b + 4 < _; omega)).trans c4
  have k5 := (hb.cell (p := ⟨b + 5, 0, none⟩) (by show b + 5 < _; omega)).trans c5
  have g4 := (hb.frozen (p := ⟨b + 4, 0, none⟩) (by show b + 4 < _; omega)).trans f4
  have g5 := (hb.frozen (p := ⟨b + 5, 0, none⟩) (by show b + 5 < _; omega)).trans f5
  have hl1 : b + 5 < w1.heap.size := Nat.lt_of_lt_of_le hlt hb.size
  clear hrow hb c0 c1 c2 c3 c4 c5 f4 f5
  go_wp2_with fail
  go_returns
  exact ⟨rfl, nb, w1, hnb, HR.out, HB.out, rfl⟩

theorem caught_col (a : Option Addr) (b cap most : Nat) (ss : List ByteArray) (p q : ByteArray) (w : World) (h : IsStrs w a ss) (hv : SixAt w b a cap most ss p q) (hn : ss.length ≤ 12) (hX : ∀ j, j < ss.length → (txt ss j).size ≤ 100 ∧ Prt (clean (txt ss j)))
    (hp : Prt p) (hq : Prt q) (hps : p.size + q.size ≤ 20) (hm : most ≤ 100) :
    Calls Try.prog 9 #[.func (.func 10) #[] #[.pointer (some ⟨b, 0, none⟩), .pointer (some ⟨b + 1, 0, none⟩), .pointer (some ⟨b + 2, 0, none⟩), .pointer (some ⟨b + 3, 0, none⟩), .pointer (some ⟨b + 4, 0, none⟩), .pointer (some ⟨b + 5, 0, none⟩)]] w
      fun e w' => e = .returned (.bool true) ∧ ∃ nb, w.heap.size ≤ nb ∧ StrFn w' nb 0 ss.length (fmtR ss most p q) ∧ w'.cell? ⟨b + 4, 0, none⟩ = some (.slice (some ⟨nb, 0, none⟩) ss.length ss.length) ∧ w'.cell? ⟨b + 5, 0, none⟩ = some (.int .i64 (fmtZ ss most p q : Nat)) ∧ w'.frozen? ⟨b + 4, 0, none⟩ = false ∧ w'.frozen? ⟨b + 5, 0, none⟩ = false ∧ Below b w w' := by
  have eg : ∀ args w, (callFunc 10 args).run Try.prog w = .ok (.enter 10 args) w := fun args w => by kernel_rfl
  have hl := hv.lt
  have ha : Below w.heap.size w (w.alloc (.cells #[.bool false] 4)) := (Below.refl w.heap.size w).alloc (Nat.le_refl _) _
  have hcl := closure_col a b cap most ss p q (w.alloc (.cells #[.bool false] 4)) (h.below ha) (hv.below ha) hn hX hp hq hps hm
  generalize fmtR ss most p q = R at hcl ⊢
  generalize fmtZ ss most p q = Z at hcl ⊢
  refine (caught_ret 10 _ w (fun w1 => ∃ nb W, w.heap.size + 1 ≤ nb ∧ StrFn W nb 0 ss.length R ∧ Below (w.heap.size + 1) (w.alloc (.cells #[.bool false] 4)) W ∧ w1 = (W.setCell ⟨b + 4, 0, none⟩ (.slice (some ⟨nb, 0, none⟩) ss.length ss.length)).setCell ⟨b + 5, 0, none⟩ (.int .i64 (Z : Nat))) eg ?_).mono ?_
  · refine hcl.mono ?_
    rintro e w1 ⟨rfl, nb, W, hnb, hrow, hb, rfl⟩
    have hb' : Below (w.heap.size + 1) (w.alloc (.cells #[.bool false] 4)) W := hb.mono (by simp)
    have hh : W.heap[w.heap.size]? = (w.alloc (.cells #[.bool false] 4)).heap[w.heap.size]? := hb'.block _ (by omega)
    have hh2 : ((W.setCell ⟨b + 4, 0, none⟩ (.slice (some ⟨nb, 0, none⟩) ss.length ss.length)).setCell ⟨b + 5, 0, none⟩ (.int .i64 (Z : Nat))).heap[w.heap.size]? = (w.alloc (.cells #[.bool false] 4)).heap[w.heap.size]? :=
      (Below.heap_setCell _ _ _ _ (show w.heap.size ≠ b + 5 by omega)).trans ((Below.heap_setCell _ _ _ _ (show w.heap.size ≠ b + 4 by omega)).trans hh)
    exact ⟨rfl, ⟨nb, W, by simpa using hnb, hrow, hb', rfl⟩, (World.cell?_of_block (a := ⟨w.heap.size, 0, none⟩) hh2).trans (by simp), (World.frozen?_of_block (a := ⟨w.heap.size, 0, none⟩) hh2).trans (by simp)⟩
  · rintro e w1 ⟨rfl, w2, ⟨nb, W, hnb, hrow, hb, rfl⟩, rfl⟩
    have hbw : Below w.heap.size w W := ha.trans (hb.mono (by omega))
    have k4 : W.cell? ⟨b + 4, 0, none⟩ = some (.slice none 0 0) := (hbw.cell (p := ⟨b + 4, 0, none⟩) (by show b + 4 < _; omega)).trans hv.c4
    have k5 : W.cell? ⟨b + 5, 0, none⟩ = some (.int .i64 0) := (hbw.cell (p := ⟨b + 5, 0, none⟩) hl).trans hv.c5
    have g4 : W.frozen? ⟨b + 4, 0, none⟩ = false := (hbw.frozen (p := ⟨b + 4, 0, none⟩) (by show b + 4 < _; omega)).trans hv.f4
    have g5 : W.frozen? ⟨b + 5, 0, none⟩ = false := (hbw.frozen (p := ⟨b + 5, 0, none⟩) hl).trans hv.f5
    refine ⟨rfl, nb, by omega, ((hrow.other (show b + 4 ≠ nb by omega)).other (show b + 5 ≠ nb by omega)).other (show w.heap.size ≠ nb by omega), ?_, ?_, ?_, ?_, ?_⟩
    · rw [World.cell?_setCell_other _ _ _ _ (by intro e; have := congrArg Addr.block e; simp at this; omega), World.cell?_setCell_other _ _ _ _ (by simp), World.cell?_setCell_same' _ _ _ (by rw [k4]; rfl)]
    · rw [World.cell?_setCell_other _ _ _ _ (by intro e; have := congrArg Addr.block e; simp at this; omega), World.cell?_setCell_same' _ _ _ (by rw [World.cell?_setCell_other _ _ _ _ (by simp), k5]; rfl)]
    · simpa [go_sem] using g4
    · simpa [go_sem] using g5
    · exact (((hbw.mono (by omega)).setCell (show b ≤ b + 4 by omega) _).setCell (show b ≤ b + 5 by omega) _).setCell (show b ≤ w.heap.size by omega) _

def ImplCol (ss : List ByteArray) (most : Nat) (p q : ByteArray) (w : World) (e : Ending) (w' : World) : Prop :=
  ∃ nb, e = .returned (.tuple #[.slice (some ⟨nb, 0, none⟩) ss.length ss.length, .int .i64 (fmtZ ss most p q : Nat), .bool true]) ∧ w.heap.size ≤ nb ∧ StrFn w' nb 0 ss.length (fmtR ss most p q) ∧ Below w.heap.size w w'

set_option maxRecDepth 100000 in
theorem impl_col (a : Option Addr) (cap most : Nat) (ss : List ByteArray) (p q : ByteArray) (w : World) (h : IsStrs w a ss) (hn : ss.length ≤ 12) (hX : ∀ j, j < ss.length → (txt ss j).size ≤ 100 ∧ Prt (clean (txt ss j)))
    (hp : Prt p) (hq : Prt q) (hps : p.size + q.size ≤ 20) (hm : most ≤ 100) :
    Calls Try.prog 7 #[.slice a ss.length cap, .int .i64 (most : Nat), .string p, .string q] w (ImplCol ss most p q w) := by
  have hmf : ∀ (fn : Fn) (first cap : Array Value) (w : World), (Instr.makeFunc fn first cap).run Try.prog w = .ok (.func fn first cap) w := fun _ _ _ _ => rfl
  have HC := Go.Lib.hid fun (w' : World) (hb : Below w.heap.size w w') hv => caught_col a w.heap.size cap most ss p q w' (h.below hb) hv hn hX hp hq hps hm
  unfold ImplCol
  generalize fmtR ss most p q = R at HC ⊢
  generalize fmtZ ss most p q = Z at HC ⊢
  clear h hX hp hq hps hm
  go_enter Try.func7, Try.ntmps7
  go_wp2_with fail
  have hb6 := (((((((Below.refl w.heap.size w).alloc (Nat.le_refl _) (.cells #[.slice a ss.length cap] 22)).alloc (by simp) (.cells #[.int .i64 (most : Nat)] 3)).alloc (by simp; omega) (.cells #[.string p] 9)).alloc (by simp; omega) (.cells #[.string q] 9)).alloc (by simp; omega) (.cells #[.slice none 0 0] 22)).alloc (by simp; omega) (.cells #[.int .i64 0] 3))
  refine (HC.out _ hb6 ⟨?_, ?_, ?_, ?_, ?_, ?_, ?_, ?_, ?_⟩).mono ?_
  · first | rfl | simp [go_sem]
  · first | rfl | simp [go_sem]
  · first | rfl | simp [go_sem]
  · first | rfl | simp [go_sem]
  · first | rfl | simp [go_sem]
  · first | rfl | simp [go_sem]
  · first | rfl | simp [go_sem]
  · first | rfl | simp [go_sem]
  · simp
  rintro e w1 ⟨rfl, nb, hnb, hrow, k4, k5, g4, g5, b1⟩
  have hb1 : Below w.heap.size w w1 := hb6.trans b1
  have hnb' : w.heap.size + 6 ≤ nb := by simpa using hnb
  have HR := Go.Lib.hid hrow
  clear b1 hb6 hrow hnb
  go_wp2_with fail
  go_region
  go_wp2_with fail
  have q4 : ((w1.setCell ⟨w.heap.size + 1 + 1 + 1 + 1, 0, none⟩ (.slice (some ⟨nb, 0, none⟩) ss.length ss.length)).setCell ⟨w.heap.size + 1 + 1 + 1 + 1 + 1, 0, none⟩ (.int .i64 (Z : Nat))).cell? ⟨w.heap.size + 1 + 1 + 1 + 1, 0, none⟩ = some (.slice (some ⟨nb, 0, none⟩) ss.length ss.length) := by
    rw [World.cell?_setCell_other _ _ _ _ (by simp), World.cell?_setCell_same' _ _ _ (by rw [k4]; rfl)]
  have q5 : ((w1.setCell ⟨w.heap.size + 1 + 1 + 1 + 1, 0, none⟩ (.slice (some ⟨nb, 0, none⟩) ss.length ss.length)).setCell ⟨w.heap.size + 1 + 1 + 1 + 1 + 1, 0, none⟩ (.int .i64 (Z : Nat))).cell? ⟨w.heap.size + 1 + 1 + 1 + 1 + 1, 0, none⟩ = some (.int .i64 (Z : Nat)) := by
    rw [World.cell?_setCell_same' _ _ _ (by rw [World.cell?_setCell_other _ _ _ _ (by simp), k5]; rfl)]
  refine bodyPost_ret (v := .tuple #[.slice (some ⟨nb, 0, none⟩) ss.length ss.length, .int .i64 (Z : Nat), .bool true]) (by simp [results, Try.results7, go_sem, q4, q5]) rfl ⟨nb, rfl, by omega, ?_, ?_⟩
  · exact ((HR.out.other (show w.heap.size + 1 + 1 + 1 + 1 ≠ nb by omega)).other (show w.heap.size + 1 + 1 + 1 + 1 + 1 ≠ nb by omega)).below (Below.refl _ _).drew
  · exact ((hb1.setCell (by simp; omega) _).setCell (by simp; omega) _).drew
end Go.Proofs.Ytjdphehphceegaa
