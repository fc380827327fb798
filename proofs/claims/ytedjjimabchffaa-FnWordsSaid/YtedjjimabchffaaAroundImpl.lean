/- The contract of impl.AroundOf. -/
import Derived.Test.YtedjjimabchffaaDocAround
namespace Go.Proofs.Ytedjjimabchffaa
open Go.RowKit
set_option linter.unusedVariables false
set_option linter.unusedSimpArgs false

/-- What is told of a cursor's surroundings. -/
def aroundV (s : ByteArray) (k g cap : Nat) : Value :=
  .agg #[.string (s.extract 0 k), .string (s.extract k s.size), .string (lineB (s.extract 0 k)), .string (lineA (s.extract k s.size)), .string (lineB (s.extract 0 k) ++ lineA (s.extract k s.size)), .int .i64 (nl s k : Nat), .int .i64 ((k - startOf (lines s) (nl s k) : Nat) : Nat), .slice (some ⟨g, 0, none⟩) (lines s).length cap, .bool ((nl s k : Int) == ((lines s).length : Int) - 1), .int .i64 ((lineA (s.extract k s.size)).size : Nat), .string ((s.extract 0 k).extract (wStart (s.extract 0 k)) k), .string ((s.extract k s.size).extract 0 (wEnd (s.extract k s.size))), .string ((s.extract 0 k).extract (wStartS (s.extract 0 k)) k), .string ((s.extract k s.size).extract 0 (wEndS (s.extract k s.size)))]

def AroundPost (s : ByteArray) (k : Nat) (w : World) (e : Ending) (w' : World) : Prop := ∃ g cap, e = .returned (aroundV s k g cap) ∧ Below w.heap.size w w'

set_option maxRecDepth 100000 in
set_option maxHeartbeats 4000000 in
theorem around_any (s : ByteArray) (k : Nat) (w : World) (hs : Small s) (hk : k ≤ s.size) :
    Calls Try.prog 17 #[.agg #[.string s, .int .i64 (k : Nat)]] w (AroundPost s k w) := by
  have HS := Go.Lib.hid hs
  clear hs
  go_enter Try.func17, Try.ntmps17
  go_wp2_with fail
  refine (document_any s k _ HS.out hk).mono ?_
  rintro e w0 ⟨b, rfl, hd, hb, b0⟩
  have HD := Go.Lib.hid hd
  have B0 : Hid (Below (w.heap.size + 2) ((w.alloc (.cells #[.string s, .int .i64 (k : Nat)] 23)).alloc (.cells #[.string ⟨#[]⟩, .string ⟨#[]⟩, .string ⟨#[]⟩, .string ⟨#[]⟩, .string ⟨#[]⟩, .int .i64 0, .int .i64 0, .slice none 0 0, .bool false, .int .i64 0, .string ⟨#[]⟩, .string ⟨#[]⟩, .string ⟨#[]⟩, .string ⟨#[]⟩] 36)) w0) := by
    rw [Hid]; simpa using b0
  clear hd b0
  go_wp2_with fail
  refine (before_any b s k w0 HD.out HS.out hk).mono ?_
  rintro e w1 ⟨rfl, b1⟩
  have HD1 := Go.Lib.hid (HD.out.below b1)
  have B1 := Go.Lib.hid (B0.out.trans (b1.mono (by have := B0.out.size; simpa using this)))
  clear b1 HD B0
  go_wp2_with fail
  refine (after_any b s k w1 HD1.out HS.out hk).mono ?_
  rintro e w2 ⟨rfl, b1⟩
  have HD2 := Go.Lib.hid (HD1.out.below b1)
  have B2 := Go.Lib.hid (B1.out.trans (b1.mono (by have := B1.out.size; simpa using this)))
  clear b1 HD1 B1
  go_wp2_with fail
  refine (line_before b s k w2 HD2.out HS.out hk).mono ?_
  rintro e w3 ⟨rfl, b1⟩
  have HD3 := Go.Lib.hid (HD2.out.below b1)
  have B3 := Go.Lib.hid (B2.out.trans (b1.mono (by have := B2.out.size; simpa using this)))
  clear b1 HD2 B2
  go_wp2_with fail
  refine (line_after b s k w3 HD3.out HS.out hk).mono ?_
  rintro e w4 ⟨rfl, b1⟩
  have HD4 := Go.Lib.hid (HD3.out.below b1)
  have B4 := Go.Lib.hid (B3.out.trans (b1.mono (by have := B3.out.size; simpa using this)))
  clear b1 HD3 B3
  go_wp2_with fail
  refine (line_whole b s k w4 HD4.out HS.out hk).mono ?_
  rintro e w5 ⟨rfl, b1⟩
  have HD5 := Go.Lib.hid (HD4.out.below b1)
  have B5 := Go.Lib.hid (B4.out.trans (b1.mono (by have := B4.out.size; simpa using this)))
  clear b1 HD4 B4
  go_wp2_with fail
  refine (row_any b s k w5 HD5.out HS.out hk).mono ?_
  rintro e w6 ⟨rfl, b1⟩
  have HD6 := Go.Lib.hid (HD5.out.below b1)
  have B6 := Go.Lib.hid (B5.out.trans (b1.mono (by have := B5.out.size; simpa using this)))
  clear b1 HD5 B5
  go_wp2_with fail
  refine (col_any b s k w6 HD6.out HS.out hk).mono ?_
  rintro e w7 ⟨rfl, b1⟩
  have HD7 := Go.Lib.hid (HD6.out.below b1)
  have B7 := Go.Lib.hid (B6.out.trans (b1.mono (by have := B6.out.size; simpa using this)))
  clear b1 HD6 B6
  go_wp2_with fail
  refine (lines_any b s k w7 HD7.out HS.out.2).mono ?_
  rintro e w8 ⟨g, cap, rfl, _, _, b1⟩
  have HD8 := Go.Lib.hid (HD7.out.below b1)
  have B8 := Go.Lib.hid (B7.out.trans (b1.mono (by have := B7.out.size; simpa using this)))
  clear b1 HD7 B7
  go_wp2_with fail
  refine (on_last b s k w8 HD8.out HS.out hk).mono ?_
  rintro e w9 ⟨rfl, b1⟩
  have HD9 := Go.Lib.hid (HD8.out.below b1)
  have B9 := Go.Lib.hid (B8.out.trans (b1.mono (by have := B8.out.size; simpa using this)))
  clear b1 HD8 B8
  go_wp2_with fail
  refine (end_of_line b s k w9 HD9.out HS.out hk).mono ?_
  rintro e w10 ⟨rfl, b1⟩
  have HD10 := Go.Lib.hid (HD9.out.below b1)
  have B10 := Go.Lib.hid (B9.out.trans (b1.mono (by have := B9.out.size; simpa using this)))
  clear b1 HD9 B9
  go_wp2_with fail
  refine (word_before b s k w10 HD10.out HS.out hk).mono ?_
  rintro e w11 ⟨rfl, b1⟩
  have HD11 := Go.Lib.hid (HD10.out.below b1)
  have B11 := Go.Lib.hid (B10.out.trans (b1.mono (by have := B10.out.size; simpa using this)))
  clear b1 HD10 B10
  go_wp2_with fail
  refine (word_after b s k w11 HD11.out HS.out hk).mono ?_
  rintro e w12 ⟨rfl, b1⟩
  have HD12 := Go.Lib.hid (HD11.out.below b1)
  have B12 := Go.Lib.hid (B11.out.trans (b1.mono (by have := B11.out.size; simpa using this)))
  clear b1 HD11 B11
  go_wp2_with fail
  refine (word_before_spaced b s k w12 HD12.out HS.out hk).mono ?_
  rintro e w13 ⟨rfl, b1⟩
  have HD13 := Go.Lib.hid (HD12.out.below b1)
  have B13 := Go.Lib.hid (B12.out.trans (b1.mono (by have := B12.out.size; simpa using this)))
  clear b1 HD12 B12
  go_wp2_with fail
  refine (word_after_spaced b s k w13 HD13.out HS.out hk).mono ?_
  rintro e w14 ⟨rfl, b1⟩
  have HD14 := Go.Lib.hid (HD13.out.below b1)
  have B14 := Go.Lib.hid (B13.out.trans (b1.mono (by have := B13.out.size; simpa using this)))
  clear b1 HD13 B13
  have h2 : w.heap.size + 1 < w14.heap.size := by have := B14.out.size; simp at this; omega
  have hcell : ∀ (j : Nat), w14.cell? ⟨w.heap.size + 1, j, none⟩ = ((w.alloc (.cells #[.string s, .int .i64 (k : Nat)] 23)).alloc (.cells #[.string ⟨#[]⟩, .string ⟨#[]⟩, .string ⟨#[]⟩, .string ⟨#[]⟩, .string ⟨#[]⟩, .int .i64 0, .int .i64 0, .slice none 0 0, .bool false, .int .i64 0, .string ⟨#[]⟩, .string ⟨#[]⟩, .string ⟨#[]⟩, .string ⟨#[]⟩] 36)).cell? ⟨w.heap.size + 1, j, none⟩ := fun j => B14.out.cell (p := ⟨w.heap.size + 1, j, none⟩) (by show w.heap.size + 1 < _; omega)
  have hfr : ∀ (j : Nat), w14.frozen? ⟨w.heap.size + 1, j, none⟩ = false := fun j => (B14.out.frozen (p := ⟨w.heap.size + 1, j, none⟩) (by show w.heap.size + 1 < _; omega)).trans (by simp [go_sem])
  have c0 : w14.cell? ⟨w.heap.size + 1, 0, none⟩ = some (.string ⟨#[]⟩) := (hcell 0).trans (by simp [go_sem])
  have f0 := hfr 0
  have c1 : w14.cell? ⟨w.heap.size + 1, 1, none⟩ = some (.string ⟨#[]⟩) := (hcell 1).trans (by simp [go_sem])
  have f1 := hfr 1
  have c2 : w14.cell? ⟨w.heap.size + 1, 2, none⟩ = some (.string ⟨#[]⟩) := (hcell 2).trans (by simp [go_sem])
  have f2 := hfr 2
  have c3 : w14.cell? ⟨w.heap.size + 1, 3, none⟩ = some (.string ⟨#[]⟩) := (hcell 3).trans (by simp [go_sem])
  have f3 := hfr 3
  have c4 : w14.cell? ⟨w.heap.size + 1, 4, none⟩ = some (.string ⟨#[]⟩) := (hcell 4).trans (by simp [go_sem])
  have f4 := hfr 4
  have c5 : w14.cell? ⟨w.heap.size + 1, 5, none⟩ = some (.int .i64 0) := (hcell 5).trans (by simp [go_sem])
  have f5 := hfr 5
  have c6 : w14.cell? ⟨w.heap.size + 1, 6, none⟩ = some (.int .i64 0) := (hcell 6).trans (by simp [go_sem])
  have f6 := hfr 6
  have c7 : w14.cell? ⟨w.heap.size + 1, 7, none⟩ = some (.slice none 0 0) := (hcell 7).trans (by simp [go_sem])
  have f7 := hfr 7
  have c8 : w14.cell? ⟨w.heap.size + 1, 8, none⟩ = some (.bool false) := (hcell 8).trans (by simp [go_sem])
  have f8 := hfr 8
  have c9 : w14.cell? ⟨w.heap.size + 1, 9, none⟩ = some (.int .i64 0) := (hcell 9).trans (by simp [go_sem])
  have f9 := hfr 9
  have c10 : w14.cell? ⟨w.heap.size + 1, 10, none⟩ = some (.string ⟨#[]⟩) := (hcell 10).trans (by simp [go_sem])
  have f10 := hfr 10
  have c11 : w14.cell? ⟨w.heap.size + 1, 11, none⟩ = some (.string ⟨#[]⟩) := (hcell 11).trans (by simp [go_sem])
  have f11 := hfr 11
  have c12 : w14.cell? ⟨w.heap.size + 1, 12, none⟩ = some (.string ⟨#[]⟩) := (hcell 12).trans (by simp [go_sem])
  have f12 := hfr 12
  have c13 : w14.cell? ⟨w.heap.size + 1, 13, none⟩ = some (.string ⟨#[]⟩) := (hcell 13).trans (by simp [go_sem])
  have f13 := hfr 13
  clear hcell hfr
  go_wp2_with fail
  refine bodyPost_ret (v := aroundV s k g cap) ?_ rfl ⟨g, cap, rfl, ?_⟩
  · simp [results, Try.results17, go_sem, aroundV, c0, c1, c2, c3, c4, c5, c6, c7, c8, c9, c10, c11, c12, c13]
  · have hB : Below w.heap.size w w14 := (((Below.refl _ _).alloc (Nat.le_refl _) _).alloc (by simp) _).trans (B14.out.mono (by omega))
    exact (((((((((((((hB.setCell (by simp) _).setCell (by simp) _).setCell (by simp) _).setCell (by simp) _).setCell (by simp) _).setCell (by simp) _).setCell (by simp) _).setCell (by simp) _).setCell (by simp) _).setCell (by simp) _).setCell (by simp) _).setCell (by simp) _).setCell (by simp) _).setCell (by simp) _
end Go.Proofs.Ytedjjimabchffaa
