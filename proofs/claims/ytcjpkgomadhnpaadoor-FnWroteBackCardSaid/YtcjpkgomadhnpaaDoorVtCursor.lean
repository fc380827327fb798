/- The cursor's sequences: CursorUp, CursorDown, CursorForward, CursorBackward. -/
import Derived.Test.YtcjpkgomadhnpaaDoorVtBase
import Derived.Test.YtcjpkgomadhnpaaDoorShelf
import Derived.Lib.ItoaLen
namespace Go.Proofs.YtcjpkgomadhnpaaDoor
open Go.RowKit
set_option linter.unusedVariables false
set_option linter.unusedSimpArgs false

theorem var_lt0 {P : Program} {W : World} {n : String} {g : Nat} {cs : Array Value} (hg : P.globalNamed n = some g) (hv : W.var? P n = some cs) : g < W.heap.size := by
  unfold World.var? at hv
  simp only [hg, Option.bind_some] at hv
  by_cases h : g < W.heap.size
  · exact h
  · have : W.heap[g]? = none := by simp; omega
    rw [this] at hv; cases hv
theorem tabIs_below {P : Program} {w w' : World} {name : String} {k : IntKind} {zs : List Int} {g : Nat} (hg : P.globalNamed name = some g) (h : Lib.TabIs P w name k zs) (hb : Below w.heap.size w w') : Lib.TabIs P w' name k zs :=
  var?_below hb hg (var_lt0 hg h) h
/-- The table that numbers are written by. -/
def Pow (w : World) : Prop := Lib.TabIs Tryd.prog w "internal/strconv.uint64pow10" .u64 Lib.pow10Tab
theorem Pow.below {w w' : World} (h : Pow w) (hb : Below w.heap.size w w') : Pow w' := tabIs_below (g := 0) (by kernel_rfl) h hb
theorem below_grow (w : World) (os : Array Obj) : Below w.heap.size w (Go.Sort.grow w os) :=
  ⟨rfl, rfl, rfl, by simp [Go.Sort.grow], fun k hk => by simp only [Go.Sort.grow]; rw [Array.getElem?_append_left hk]⟩

theorem itoa_any (n : Int) (h0 : -9999999 ≤ n) (h1 : n ≤ 9999999) (w : World) (h : Pow w) : Calls Tryd.prog 19 #[.int .i64 n] w fun e w' => e = .returned (.string (strB (Lib.itoa n))) ∧ Below w.heap.size w w' :=
  (Tryd.strconv_Itoa n (by omega) (by omega) w h).mono fun e w' ⟨h1, k, os, h2⟩ => ⟨h1, by rw [h2]; exact (below_drewN (Below.refl _ _) _).trans (show Below w.heap.size (w.drewN k) _ from below_grow (w.drewN k) os)⟩

/-- A number in a sequence. -/
def seqN (n : Int) (L : UInt8) : List UInt8 := [27, 91] ++ (Lib.itoa n ++ [L])
theorem seqN_len (n : Int) (L : UInt8) (h0 : -9999999 ≤ n) (h1 : n ≤ 9999999) : (seqN n L).length ≤ 24 := by
  have := Lib.itoa_length_le n (by omega) (by omega)
  simp [seqN]; omega
theorem lit_src (w : World) (cs : List UInt8) (t : TypeId) : BSrc (w.alloc (.cells (cs.map fun b => Value.int .u8 (b.toNat : Int)).toArray t)) (some ⟨w.heap.size, 0, none⟩) cs.length cs.length (nums cs) :=
  src_cells fun j hj => by simp [go_sem, hj]
theorem conv_src (w : World) (l : List UInt8) (c : Nat) (fr : Nat × Nat) : BSrc (w.drew.alloc (.cells (bytesRow (strB l) c) 5 fr)) (some ⟨w.heap.size, 0, none⟩) l.length c (nums l) :=
  src_cells fun j hj => by
    have e : (bytesRow (strB l) c)[j]? = some (.int .u8 (l[j].toNat : Int)) := by
      unfold bytesRow strB
      rw [Array.getElem?_append_left (by simpa using hj)]
      simp [hj]
    rw [Nat.zero_add, World.cell?, show (w.drew.alloc (.cells (bytesRow (strB l) c) 5 fr)).heap[w.heap.size]? = some (.cells (bytesRow (strB l) c) 5 fr) from heap_alloc_new w.drew _]
    simpa using e

set_option maxHeartbeats 1000000 in
theorem CursorUp_pos (vb : Nat) (l : List UInt8) (n : Int) (w : World) (h : VT w vb l) (hp : Pow w) (h0 : 1 ≤ n) (h1 : n ≤ 99999) (hl : l.length ≤ 900000) :
    Calls Tryd.prog 9 #[.pointer (some ⟨vb, 0, none⟩), .int .i64 n] w fun e w' => e = .returned (.tuple #[]) ∧ (VT w' vb (l ++ seqN n 65) ∧ OwnB vb w w') := by
  have H := Go.Lib.hid h
  have HI := Go.Lib.hid (itoa_any n (by omega) (by omega) w hp)
  have hlen := Lib.itoa_length_le n (by omega) (by omega)
  have hbs := fun (W : World) (s : ByteArray) => run_bytes_of_string (P := Tryd.prog) W 9 29 5 s Tryd.underlying9 Tryd.underlying29 Tryd.underlying5
  have n0 : (n == 0) = false := by simp; omega
  clear h hp
  obtain ⟨d, hd⟩ : ∃ d, d = Lib.itoa n := ⟨_, rfl⟩
  have hseq : seqN n 65 = [27, 91] ++ (d ++ [65]) := by rw [hd]; rfl
  rw [← hd] at HI hlen
  rw [hseq]
  clear hd hseq
  have HBS := Go.Lib.hid (fun (W : World) => hbs W (strB d))
  clear hbs
  go_enter Tryd.func9, Tryd.ntmps9
  go_wp2_with fail
  refine HI.out.mono ?_
  rintro e w1 ⟨rfl, b1⟩
  have HV1 : Hid (VT (w1.alloc (.cells #[.int .u8 27, .int .u8 91] 5)) vb l) := (H.out.below b1).below ((Below.refl _ _).alloc (Nat.le_refl _) _)
  have O1 : Hid (OwnB vb w (w1.alloc (.cells #[.int .u8 27, .int .u8 91] 5))) := (OwnB.of b1).alloc _
  have S1 : Hid (BSrc (w1.alloc (.cells #[.int .u8 27, .int .u8 91] 5)) (some ⟨w1.heap.size, 0, none⟩) 2 2 (nums [27, 91])) := lit_src w1 [27, 91] 5
  clear b1
  go_wp2_with fail
  refine (writeRaw_any vb l [27, 91] _ 2 _ HV1.out S1.out (by simp; omega)).mono ?_
  rintro e w2 ⟨rfl, v2, o2⟩
  have hcv := HBS.out w2
  have S2 := Go.Lib.hid (conv_src w2 d (grownCap w2 (strB d).size 0 5) ((bytesRow (strB d) (grownCap w2 (strB d).size 0 5)).size, (bytesRow (strB d) (grownCap w2 (strB d).size 0 5)).size + 1))
  obtain ⟨W2, hW2⟩ : ∃ W2, W2 = w2.drew.alloc (.cells (bytesRow (strB d) (grownCap w2 (strB d).size 0 5)) 5 ((bytesRow (strB d) (grownCap w2 (strB d).size 0 5)).size, (bytesRow (strB d) (grownCap w2 (strB d).size 0 5)).size + 1)) := ⟨_, rfl⟩
  have kb : Below w2.heap.size w2 W2 := by rw [hW2]; exact (Below.refl _ _).drew.alloc (Nat.le_refl _) _
  rw [← hW2] at hcv S2
  rw [show (strB d).size = d.length from rfl] at hcv S2
  have HV2 := Go.Lib.hid (v2.below kb)
  have O2 := Go.Lib.hid ((O1.out.trans o2).after kb)
  clear v2 o2 hW2 kb
  go_wp2_with fail
  refine (writeRaw_any vb (l ++ [27, 91]) d _ _ W2 HV2.out S2.out (by simp; omega)).mono ?_
  rintro e w3 ⟨rfl, v3, o3⟩
  have HV3 : Hid (VT (w3.alloc (.cells #[.int .u8 65] 5)) vb (l ++ [27, 91] ++ d)) := v3.below ((Below.refl _ _).alloc (Nat.le_refl _) _)
  have O3 : Hid (OwnB vb w (w3.alloc (.cells #[.int .u8 65] 5))) := (O2.out.trans o3).alloc _
  have S3 : Hid (BSrc (w3.alloc (.cells #[.int .u8 65] 5)) (some ⟨w3.heap.size, 0, none⟩) 1 1 (nums [65])) := lit_src w3 [65] 5
  clear v3 o3 hcv
  go_wp2_with fail
  refine (writeRaw_any vb (l ++ [27, 91] ++ d) [65] _ 1 _ HV3.out S3.out (by simp; omega)).mono ?_
  rintro e w4 ⟨rfl, v4, o4⟩
  have HV4 : Hid (VT w4 vb (l ++ ([27, 91] ++ (d ++ [65])))) := by rw [← List.append_assoc, ← List.append_assoc]; exact v4
  have O4 := Go.Lib.hid (O3.out.trans o4)
  clear v4 o4
  go_wp2_with fail
  go_returns
  exact ⟨rfl, HV4.out, O4.out⟩

theorem CursorUp_zero (vb : Nat) (l : List UInt8) (w : World) (h : VT w vb l) :
    Calls Tryd.prog 9 #[.pointer (some ⟨vb, 0, none⟩), .int .i64 0] w fun e w' => e = .returned (.tuple #[]) ∧ (VT w' vb l ∧ OwnB vb w w') := by
  have H := Go.Lib.hid h
  clear h
  go_enter Tryd.func9, Tryd.ntmps9
  go_wp2_with fail
  go_returns
  exact ⟨rfl, H.out, OwnB.refl _ _⟩

set_option maxHeartbeats 1000000 in
theorem CursorDown_pos (vb : Nat) (l : List UInt8) (n : Int) (w : World) (h : VT w vb l) (hp : Pow w) (h0 : 1 ≤ n) (h1 : n ≤ 99999) (hl : l.length ≤ 900000) :
    Calls Tryd.prog 10 #[.pointer (some ⟨vb, 0, none⟩), .int .i64 n] w fun e w' => e = .returned (.tuple #[]) ∧ (VT w' vb (l ++ seqN n 66) ∧ OwnB vb w w') := by
  have H := Go.Lib.hid h
  have HI := Go.Lib.hid (itoa_any n (by omega) (by omega) w hp)
  have hlen := Lib.itoa_length_le n (by omega) (by omega)
  have hbs := fun (W : World) (s : ByteArray) => run_bytes_of_string (P := Tryd.prog) W 9 29 5 s Tryd.underlying9 Tryd.underlying29 Tryd.underlying5
  have n0 : (n == 0) = false := by simp; omega
  clear h hp
  obtain ⟨d, hd⟩ : ∃ d, d = Lib.itoa n := ⟨_, rfl⟩
  have hseq : seqN n 66 = [27, 91] ++ (d ++ [66]) := by rw [hd]; rfl
  rw [← hd] at HI hlen
  rw [hseq]
  clear hd hseq
  have HBS := Go.Lib.hid (fun (W : World) => hbs W (strB d))
  clear hbs
  go_enter Tryd.func10, Tryd.ntmps10
  go_wp2_with fail
  refine HI.out.mono ?_
  rintro e w1 ⟨rfl, b1⟩
  have HV1 : Hid (VT (w1.alloc (.cells #[.int .u8 27, .int .u8 91] 5)) vb l) := (H.out.below b1).below ((Below.refl _ _).alloc (Nat.le_refl _) _)
  have O1 : Hid (OwnB vb w (w1.alloc (.cells #[.int .u8 27, .int .u8 91] 5))) := (OwnB.of b1).alloc _
  have S1 : Hid (BSrc (w1.alloc (.cells #[.int .u8 27, .int .u8 91] 5)) (some ⟨w1.heap.size, 0, none⟩) 2 2 (nums [27, 91])) := lit_src w1 [27, 91] 5
  clear b1
  go_wp2_with fail
  refine (writeRaw_any vb l [27, 91] _ 2 _ HV1.out S1.out (by simp; omega)).mono ?_
  rintro e w2 ⟨rfl, v2, o2⟩
  have hcv := HBS.out w2
  have S2 := Go.Lib.hid (conv_src w2 d (grownCap w2 (strB d).size 0 5) ((bytesRow (strB d) (grownCap w2 (strB d).size 0 5)).size, (bytesRow (strB d) (grownCap w2 (strB d).size 0 5)).size + 1))
  obtain ⟨W2, hW2⟩ : ∃ W2, W2 = w2.drew.alloc (.cells (bytesRow (strB d) (grownCap w2 (strB d).size 0 5)) 5 ((bytesRow (strB d) (grownCap w2 (strB d).size 0 5)).size, (bytesRow (strB d) (grownCap w2 (strB d).size 0 5)).size + 1)) := ⟨_, rfl⟩
  have kb : Below w2.heap.size w2 W2 := by rw [hW2]; exact (Below.refl _ _).drew.alloc (Nat.le_refl _) _
  rw [← hW2] at hcv S2
  rw [show (strB d).size = d.length from rfl] at hcv S2
  have HV2 := Go.Lib.hid (v2.below kb)
  have O2 := Go.Lib.hid ((O1.out.trans o2).after kb)
  clear v2 o2 hW2 kb
  go_wp2_with fail
  refine (writeRaw_any vb (l ++ [27, 91]) d _ _ W2 HV2.out S2.out (by simp; omega)).mono ?_
  rintro e w3 ⟨rfl, v3, o3⟩
  have HV3 : Hid (VT (w3.alloc (.cells #[.int .u8 66] 5)) vb (l ++ [27, 91] ++ d)) := v3.below ((Below.refl _ _).alloc (Nat.le_refl _) _)
  have O3 : Hid (OwnB vb w (w3.alloc (.cells #[.int .u8 66] 5))) := (O2.out.trans o3).alloc _
  have S3 : Hid (BSrc (w3.alloc (.cells #[.int .u8 66] 5)) (some ⟨w3.heap.size, 0, none⟩) 1 1 (nums [66])) := lit_src w3 [66] 5
  clear v3 o3 hcv
  go_wp2_with fail
  refine (writeRaw_any vb (l ++ [27, 91] ++ d) [66] _ 1 _ HV3.out S3.out (by simp; omega)).mono ?_
  rintro e w4 ⟨rfl, v4, o4⟩
  have HV4 : Hid (VT w4 vb (l ++ ([27, 91] ++ (d ++ [66])))) := by rw [← List.append_assoc, ← List.append_assoc]; exact v4
  have O4 := Go.Lib.hid (O3.out.trans o4)
  clear v4 o4
  go_wp2_with fail
  go_returns
  exact ⟨rfl, HV4.out, O4.out⟩

theorem CursorDown_zero (vb : Nat) (l : List UInt8) (w : World) (h : VT w vb l) :
    Calls Tryd.prog 10 #[.pointer (some ⟨vb, 0, none⟩), .int .i64 0] w fun e w' => e = .returned (.tuple #[]) ∧ (VT w' vb l ∧ OwnB vb w w') := by
  have H := Go.Lib.hid h
  clear h
  go_enter Tryd.func10, Tryd.ntmps10
  go_wp2_with fail
  go_returns
  exact ⟨rfl, H.out, OwnB.refl _ _⟩

set_option maxHeartbeats 1000000 in
theorem CursorForward_pos (vb : Nat) (l : List UInt8) (n : Int) (w : World) (h : VT w vb l) (hp : Pow w) (h0 : 1 ≤ n) (h1 : n ≤ 99999) (hl : l.length ≤ 900000) :
    Calls Tryd.prog 11 #[.pointer (some ⟨vb, 0, none⟩), .int .i64 n] w fun e w' => e = .returned (.tuple #[]) ∧ (VT w' vb (l ++ seqN n 67) ∧ OwnB vb w w') := by
  have H := Go.Lib.hid h
  have HI := Go.Lib.hid (itoa_any n (by omega) (by omega) w hp)
  have hlen := Lib.itoa_length_le n (by omega) (by omega)
  have hbs := fun (W : World) (s : ByteArray) => run_bytes_of_string (P := Tryd.prog) W 9 29 5 s Tryd.underlying9 Tryd.underlying29 Tryd.underlying5
  have n0 : (n == 0) = false := by simp; omega
  clear h hp
  obtain ⟨d, hd⟩ : ∃ d, d = Lib.itoa n := ⟨_, rfl⟩
  have hseq : seqN n 67 = [27, 91] ++ (d ++ [67]) := by rw [hd]; rfl
  rw [← hd] at HI hlen
  rw [hseq]
  clear hd hseq
  have HBS := Go.Lib.hid (fun (W : World) => hbs W (strB d))
  clear hbs
  go_enter Tryd.func11, Tryd.ntmps11
  go_wp2_with fail
  refine HI.out.mono ?_
  rintro e w1 ⟨rfl, b1⟩
  have HV1 : Hid (VT (w1.alloc (.cells #[.int .u8 27, .int .u8 91] 5)) vb l) := (H.out.below b1).below ((Below.refl _ _).alloc (Nat.le_refl _) _)
  have O1 : Hid (OwnB vb w (w1.alloc (.cells #[.int .u8 27, .int .u8 91] 5))) := (OwnB.of b1).alloc _
  have S1 : Hid (BSrc (w1.alloc (.cells #[.int .u8 27, .int .u8 91] 5)) (some ⟨w1.heap.size, 0, none⟩) 2 2 (nums [27, 91])) := lit_src w1 [27, 91] 5
  clear b1
  go_wp2_with fail
  refine (writeRaw_any vb l [27, 91] _ 2 _ HV1.out S1.out (by simp; omega)).mono ?_
  rintro e w2 ⟨rfl, v2, o2⟩
  have hcv := HBS.out w2
  have S2 := Go.Lib.hid (conv_src w2 d (grownCap w2 (strB d).size 0 5) ((bytesRow (strB d) (grownCap w2 (strB d).size 0 5)).size, (bytesRow (strB d) (grownCap w2 (strB d).size 0 5)).size + 1))
  obtain ⟨W2, hW2⟩ : ∃ W2, W2 = w2.drew.alloc (.cells (bytesRow (strB d) (grownCap w2 (strB d).size 0 5)) 5 ((bytesRow (strB d) (grownCap w2 (strB d).size 0 5)).size, (bytesRow (strB d) (grownCap w2 (strB d).size 0 5)).size + 1)) := ⟨_, rfl⟩
  have kb : Below w2.heap.size w2 W2 := by rw [hW2]; exact (Below.refl _ _).drew.alloc (Nat.le_refl _) _
  rw [← hW2] at hcv S2
  rw [show (strB d).size = d.length from rfl] at hcv S2
  have HV2 := Go.Lib.hid (v2.below kb)
  have O2 := Go.Lib.hid ((O1.out.trans o2).after kb)
  clear v2 o2 hW2 kb
  go_wp2_with fail
  refine (writeRaw_any vb (l ++ [27, 91]) d _ _ W2 HV2.out S2.out (by simp; omega)).mono ?_
  rintro e w3 ⟨rfl, v3, o3⟩
  have HV3 : Hid (VT (w3.alloc (.cells #[.int .u8 67] 5)) vb (l ++ [27, 91] ++ d)) := v3.below ((Below.refl _ _).alloc (Nat.le_refl _) _)
  have O3 : Hid (OwnB vb w (w3.alloc (.cells #[.int .u8 67] 5))) := (O2.out.trans o3).alloc _
  have S3 : Hid (BSrc (w3.alloc (.cells #[.int .u8 67] 5)) (some ⟨w3.heap.size, 0, none⟩) 1 1 (nums [67])) := lit_src w3 [67] 5
  clear v3 o3 hcv
  go_wp2_with fail
  refine (writeRaw_any vb (l ++ [27, 91] ++ d) [67] _ 1 _ HV3.out S3.out (by simp; omega)).mono ?_
  rintro e w4 ⟨rfl, v4, o4⟩
  have HV4 : Hid (VT w4 vb (l ++ ([27, 91] ++ (d ++ [67])))) := by rw [← List.append_assoc, ← List.append_assoc]; exact v4
  have O4 := Go.Lib.hid (O3.out.trans o4)
  clear v4 o4
  go_wp2_with fail
  go_returns
  exact ⟨rfl, HV4.out, O4.out⟩

theorem CursorForward_zero (vb : Nat) (l : List UInt8) (w : World) (h : VT w vb l) :
    Calls Tryd.prog 11 #[.pointer (some ⟨vb, 0, none⟩), .int .i64 0] w fun e w' => e = .returned (.tuple #[]) ∧ (VT w' vb l ∧ OwnB vb w w') := by
  have H := Go.Lib.hid h
  clear h
  go_enter Tryd.func11, Tryd.ntmps11
  go_wp2_with fail
  go_returns
  exact ⟨rfl, H.out, OwnB.refl _ _⟩

set_option maxHeartbeats 1000000 in
theorem CursorBackward_pos (vb : Nat) (l : List UInt8) (n : Int) (w : World) (h : VT w vb l) (hp : Pow w) (h0 : 1 ≤ n) (h1 : n ≤ 99999) (hl : l.length ≤ 900000) :
    Calls Tryd.prog 12 #[.pointer (some ⟨vb, 0, none⟩), .int .i64 n] w fun e w' => e = .returned (.tuple #[]) ∧ (VT w' vb (l ++ seqN n 68) ∧ OwnB vb w w') := by
  have H := Go.Lib.hid h
  have HI := Go.Lib.hid (itoa_any n (by omega) (by omega) w hp)
  have hlen := Lib.itoa_length_le n (by omega) (by omega)
  have hbs := fun (W : World) (s : ByteArray) => run_bytes_of_string (P := Tryd.prog) W 9 29 5 s Tryd.underlying9 Tryd.underlying29 Tryd.underlying5
  have n0 : (n == 0) = false := by simp; omega
  clear h hp
  obtain ⟨d, hd⟩ : ∃ d, d = Lib.itoa n := ⟨_, rfl⟩
  have hseq : seqN n 68 = [27, 91] ++ (d ++ [68]) := by rw [hd]; rfl
  rw [← hd] at HI hlen
  rw [hseq]
  clear hd hseq
  have HBS := Go.Lib.hid (fun (W : World) => hbs W (strB d))
  clear hbs
  go_enter Tryd.func12, Tryd.ntmps12
  go_wp2_with fail
  refine HI.out.mono ?_
  rintro e w1 ⟨rfl, b1⟩
  have HV1 : Hid (VT (w1.alloc (.cells #[.int .u8 27, .int .u8 91] 5)) vb l) := (H.out.below b1).below ((Below.refl _ _).alloc (Nat.le_refl _) _)
  have O1 : Hid (OwnB vb w (w1.alloc (.cells #[.int .u8 27, .int .u8 91] 5))) := (OwnB.of b1).alloc _
  have S1 : Hid (BSrc (w1.alloc (.cells #[.int .u8 27, .int .u8 91] 5)) (some ⟨w1.heap.size, 0, none⟩) 2 2 (nums [27, 91])) := lit_src w1 [27, 91] 5
  clear b1
  go_wp2_with fail
  refine (writeRaw_any vb l [27, 91] _ 2 _ HV1.out S1.out (by simp; omega)).mono ?_
  rintro e w2 ⟨rfl, v2, o2⟩
  have hcv := HBS.out w2
  have S2 := Go.Lib.hid (conv_src w2 d (grownCap w2 (strB d).size 0 5) ((bytesRow (strB d) (grownCap w2 (strB d).size 0 5)).size, (bytesRow (strB d) (grownCap w2 (strB d).size 0 5)).size + 1))
  obtain ⟨W2, hW2⟩ : ∃ W2, W2 = w2.drew.alloc (.cells (bytesRow (strB d) (grownCap w2 (strB d).size 0 5)) 5 ((bytesRow (strB d) (grownCap w2 (strB d).size 0 5)).size, (bytesRow (strB d) (grownCap w2 (strB d).size 0 5)).size + 1)) := ⟨_, rfl⟩
  have kb : Below w2.heap.size w2 W2 := by rw [hW2]; exact (Below.refl _ _).drew.alloc (Nat.le_refl _) _
  rw [← hW2] at hcv S2
  rw [show (strB d).size = d.length from rfl] at hcv S2
  have HV2 := Go.Lib.hid (v2.below kb)
  have O2 := Go.Lib.hid ((O1.out.trans o2).after kb)
  clear v2 o2 hW2 kb
  go_wp2_with fail
  refine (writeRaw_any vb (l ++ [27, 91]) d _ _ W2 HV2.out S2.out (by simp; omega)).mono ?_
  rintro e w3 ⟨rfl, v3, o3⟩
  have HV3 : Hid (VT (w3.alloc (.cells #[.int .u8 68] 5)) vb (l ++ [27, 91] ++ d)) := v3.below ((Below.refl _ _).alloc (Nat.le_refl _) _)
  have O3 : Hid (OwnB vb w (w3.alloc (.cells #[.int .u8 68] 5))) := (O2.out.trans o3).alloc _
  have S3 : Hid (BSrc (w3.alloc (.cells #[.int .u8 68] 5)) (some ⟨w3.heap.size, 0, none⟩) 1 1 (nums [68])) := lit_src w3 [68] 5
  clear v3 o3 hcv
  go_wp2_with fail
  refine (writeRaw_any vb (l ++ [27, 91] ++ d) [68] _ 1 _ HV3.out S3.out (by simp; omega)).mono ?_
  rintro e w4 ⟨rfl, v4, o4⟩
  have HV4 : Hid (VT w4 vb (l ++ ([27, 91] ++ (d ++ [68])))) := by rw [← List.append_assoc, ← List.append_assoc]; exact v4
  have O4 := Go.Lib.hid (O3.out.trans o4)
  clear v4 o4
  go_wp2_with fail
  go_returns
  exact ⟨rfl, HV4.out, O4.out⟩

theorem CursorBackward_zero (vb : Nat) (l : List UInt8) (w : World) (h : VT w vb l) :
    Calls Tryd.prog 12 #[.pointer (some ⟨vb, 0, none⟩), .int .i64 0] w fun e w' => e = .returned (.tuple #[]) ∧ (VT w' vb l ∧ OwnB vb w w') := by
  have H := Go.Lib.hid h
  clear h
  go_enter Tryd.func12, Tryd.ntmps12
  go_wp2_with fail
  go_returns
  exact ⟨rfl, H.out, OwnB.refl _ _⟩

/-- A move by a number: nothing for 0, the other way for less. -/
def mvSeq (n : Int) (L O : UInt8) : List UInt8 := if n = 0 then [] else if n < 0 then seqN (-n) O else seqN n L

theorem CursorUp_any (vb : Nat) (l : List UInt8) (n : Int) (w : World) (h : VT w vb l) (hp : Pow w) (h0 : -99999 ≤ n) (h1 : n ≤ 99999) (hl : l.length ≤ 900000) :
    Calls Tryd.prog 9 #[.pointer (some ⟨vb, 0, none⟩), .int .i64 n] w fun e w' => e = .returned (.tuple #[]) ∧ (VT w' vb (l ++ mvSeq n 65 66) ∧ OwnB vb w w') := by
  by_cases e0 : n = 0
  · subst e0
    rw [show mvSeq 0 65 66 = [] from rfl, List.append_nil]
    exact CursorUp_zero vb l w h
  by_cases e1 : n < 0
  · rw [show mvSeq n 65 66 = seqN (-n) 66 by unfold mvSeq; rw [if_neg e0, if_pos e1]]
    have HO := Go.Lib.hid (CursorDown_pos vb l (-n) w h hp (by omega) (by omega) hl)
    have hw : IntKind.i64.wrap (-n) = -n := IntWalk.i64_in _ (by omega)
    have n0 : (n == 0) = false := by simpa using e0
    clear h hp e0
    generalize seqN (-n) 66 = q at HO ⊢
    go_enter Tryd.func9, Tryd.ntmps9
    go_wp2_with fail
    refine HO.out.mono ?_
    rintro e w1 ⟨rfl, v1, o1⟩
    have HV := Go.Lib.hid v1
    have HW := Go.Lib.hid o1
    clear v1 o1
    go_wp2_with fail
    go_returns
    exact ⟨rfl, HV.out, HW.out⟩
  · rw [show mvSeq n 65 66 = seqN n 65 by unfold mvSeq; rw [if_neg e0, if_neg e1]]
    exact CursorUp_pos vb l n w h hp (by omega) h1 hl

theorem CursorDown_any (vb : Nat) (l : List UInt8) (n : Int) (w : World) (h : VT w vb l) (hp : Pow w) (h0 : -99999 ≤ n) (h1 : n ≤ 99999) (hl : l.length ≤ 900000) :
    Calls Tryd.prog 10 #[.pointer (some ⟨vb, 0, none⟩), .int .i64 n] w fun e w' => e = .returned (.tuple #[]) ∧ (VT w' vb (l ++ mvSeq n 66 65) ∧ OwnB vb w w') := by
  by_cases e0 : n = 0
  · subst e0
    rw [show mvSeq 0 66 65 = [] from rfl, List.append_nil]
    exact CursorDown_zero vb l w h
  by_cases e1 : n < 0
  · rw [show mvSeq n 66 65 = seqN (-n) 65 by unfold mvSeq; rw [if_neg e0, if_pos e1]]
    have HO := Go.Lib.hid (CursorUp_pos vb l (-n) w h hp (by omega) (by omega) hl)
    have hw : IntKind.i64.wrap (-n) = -n := IntWalk.i64_in _ (by omega)
    have n0 : (n == 0) = false := by simpa using e0
    clear h hp e0
    generalize seqN (-n) 65 = q at HO ⊢
    go_enter Tryd.func10, Tryd.ntmps10
    go_wp2_with fail
    refine HO.out.mono ?_
    rintro e w1 ⟨rfl, v1, o1⟩
    have HV := Go.Lib.hid v1
    have HW := Go.Lib.hid o1
    clear v1 o1
    go_wp2_with fail
    go_returns
    exact ⟨rfl, HV.out, HW.out⟩
  · rw [show mvSeq n 66 65 = seqN n 66 by unfold mvSeq; rw [if_neg e0, if_neg e1]]
    exact CursorDown_pos vb l n w h hp (by omega) h1 hl

theorem CursorForward_any (vb : Nat) (l : List UInt8) (n : Int) (w : World) (h : VT w vb l) (hp : Pow w) (h0 : -99999 ≤ n) (h1 : n ≤ 99999) (hl : l.length ≤ 900000) :
    Calls Tryd.prog 11 #[.pointer (some ⟨vb, 0, none⟩), .int .i64 n] w fun e w' => e = .returned (.tuple #[]) ∧ (VT w' vb (l ++ mvSeq n 67 68) ∧ OwnB vb w w') := by
  by_cases e0 : n = 0
  · subst e0
    rw [show mvSeq 0 67 68 = [] from rfl, List.append_nil]
    exact CursorForward_zero vb l w h
  by_cases e1 : n < 0
  · rw [show mvSeq n 67 68 = seqN (-n) 68 by unfold mvSeq; rw [if_neg e0, if_pos e1]]
    have HO := Go.Lib.hid (CursorBackward_pos vb l (-n) w h hp (by omega) (by omega) hl)
    have hw : IntKind.i64.wrap (-n) = -n := IntWalk.i64_in _ (by omega)
    have n0 : (n == 0) = false := by simpa using e0
    clear h hp e0
    generalize seqN (-n) 68 = q at HO ⊢
    go_enter Tryd.func11, Tryd.ntmps11
    go_wp2_with fail
    refine HO.out.mono ?_
    rintro e w1 ⟨rfl, v1, o1⟩
    have HV := Go.Lib.hid v1
    have HW := Go.Lib.hid o1
    clear v1 o1
    go_wp2_with fail
    go_returns
    exact ⟨rfl, HV.out, HW.out⟩
  · rw [show mvSeq n 67 68 = seqN n 67 by unfold mvSeq; rw [if_neg e0, if_neg e1]]
    exact CursorForward_pos vb l n w h hp (by omega) h1 hl

theorem CursorBackward_any (vb : Nat) (l : List UInt8) (n : Int) (w : World) (h : VT w vb l) (hp : Pow w) (h0 : -99999 ≤ n) (h1 : n ≤ 99999) (hl : l.length ≤ 900000) :
    Calls Tryd.prog 12 #[.pointer (some ⟨vb, 0, none⟩), .int .i64 n] w fun e w' => e = .returned (.tuple #[]) ∧ (VT w' vb (l ++ mvSeq n 68 67) ∧ OwnB vb w w') := by
  by_cases e0 : n = 0
  · subst e0
    rw [show mvSeq 0 68 67 = [] from rfl, List.append_nil]
    exact CursorBackward_zero vb l w h
  by_cases e1 : n < 0
  · rw [show mvSeq n 68 67 = seqN (-n) 67 by unfold mvSeq; rw [if_neg e0, if_pos e1]]
    have HO := Go.Lib.hid (CursorForward_pos vb l (-n) w h hp (by omega) (by omega) hl)
    have hw : IntKind.i64.wrap (-n) = -n := IntWalk.i64_in _ (by omega)
    have n0 : (n == 0) = false := by simpa using e0
    clear h hp e0
    generalize seqN (-n) 67 = q at HO ⊢
    go_enter Tryd.func12, Tryd.ntmps12
    go_wp2_with fail
    refine HO.out.mono ?_
    rintro e w1 ⟨rfl, v1, o1⟩
    have HV := Go.Lib.hid v1
    have HW := Go.Lib.hid o1
    clear v1 o1
    go_wp2_with fail
    go_returns
    exact ⟨rfl, HV.out, HW.out⟩
  · rw [show mvSeq n 68 67 = seqN n 68 by unfold mvSeq; rw [if_neg e0, if_neg e1]]
    exact CursorBackward_pos vb l n w h hp (by omega) h1 hl
end Go.Proofs.YtcjpkgomadhnpaaDoor
