/- indent.Writer's Write of a plain text over a padding.Writer. (Printed by gen/mkqi.py.) -/
import Derived.Test.YtbibokkclejapaaDoorIndQIw
namespace Go.Proofs.YtbibokkclejapaaDoor
open Go.RowKit
set_option linter.unusedVariables false
set_option linter.unusedSimpArgs false
variable {X : Nat → Prop}

def IqPost (X : Nat → Prop) (B iw ab pw ab2 mm n : Nat) (p l bs : List UInt8) (sk : Bool) (w : World) (e : Ending) (w' : World) : Prop :=
  e = .returned (.tuple #[.int .i64 (bs.length : Nat), .nilIface]) ∧ IQ X B iw ab pw ab2 mm n w' (l ++ indP p sk bs) (endS sk bs) ∧ QOn X B iw ab pw ab2 w w'

set_option maxRecDepth 100000 in
set_option maxHeartbeats 1000000 in
theorem iq_write (B iw ab pw ab2 mm n : Nat) (l0 bs : List UInt8) (sk0 : Bool) (a : Option Addr) (c : Nat) (w : World) (h : IQ X B iw ab pw ab2 mm n w l0 sk0) (hn : n ≤ 1000) (ht : TextAt w a bs.length c (tx bs)) (hm : mm ≤ 1000) (hp : Pla bs) (hl : Fit mm (l0 ++ indP (List.replicate n 32) sk0 bs)) (hbl : bs.length ≤ 900000) :
    Calls Tryd.prog 34 #[.pointer (some ⟨iw, 0, none⟩), .slice a bs.length c] w (IqPost X B iw ab pw ab2 mm n (List.replicate n 32) l0 bs sk0 w) := by
  have hcv := ht.2 w (Below.refl _ _)
  obtain ⟨s, hs⟩ : ∃ s, s = tx bs := ⟨_, rfl⟩
  obtain ⟨m, hmb⟩ : ∃ m, m = bs.length := ⟨_, rfl⟩
  obtain ⟨p, hpp⟩ : ∃ p, p = List.replicate n (32 : UInt8) := ⟨_, rfl⟩
  have hpl : p.length = n := by rw [hpp, List.length_replicate]
  have hsn : s.size = m := by rw [hs, tx_size, hmb]
  have HZ := Go.Lib.hid h.lt
  have H := Go.Lib.hid h
  have HP := Go.Lib.hid hp
  have HS := Go.Lib.hid hs
  have HN := Go.Lib.hid hmb
  have HL : Hid (∀ k, k < bs.length → Fit mm (l0 ++ indP p sk0 (bs.take (k + 1)))) := fun k hk => by
    have h1 := indP_append p (bs.drop (k + 1)) (bs.take (k + 1)) sk0
    rw [List.take_append_drop] at h1
    rw [← hpp, h1, ← List.append_assoc] at hl
    exact hl.pre
  have HRP : Hid (∀ W, Calls Tryd.prog 54 #[.string ⟨#[32]⟩, .int .i64 (n : Nat)] W fun e w' => e = .returned (.string (tx p)) ∧ Below W.heap.size W w') := fun W => by
    rw [hpp]; exact blanks_any n W hn
  have HPP : Hid (Pla p) := fun c hc => by
    rw [hpp] at hc
    rw [List.eq_of_mem_replicate hc]; exact .inr (by decide)
  have hm2 : m ≤ 900000 := by omega
  rw [← hs, ← hmb] at hcv
  rw [← hmb, ← hpp]
  have hnf : ∀ W, (binOp .neq 68 .nilFunc .nilFunc).run Tryd.prog W = .ok (.bool false) W := fun W => by kernel_rfl
  have hwn : IntKind.i64.wrap (n : Int) = n := wrap_small n (by omega) (by omega)
  clear ht hs hmb h hp hl hbl hpp hpl
  go_enter Tryd.func34, Tryd.ntmps34
  go_wp2_with fail
  go_loopw [] (fun wr => ∃ k : Nat, k ≤ m ∧ wr.heap[w.heap.size]? = some (.stringIter s k) ∧ Hid (IQ X B iw ab pw ab2 mm n wr (l0 ++ indP p sk0 (bs.take k)) (endS sk0 (bs.take k))) ∧ Hid (QOn X B iw ab pw ab2 w wr)) (fun wr => s.size - wr.iterPos w.heap.size)
  case atStart =>
    have hb : Below w.heap.size w (w.iter s 0) := (Below.refl _ _).alloc (Nat.le_refl _) _
    exact ⟨0, Nat.zero_le _, World.iter_heap w s 0, Go.Lib.hid (by simpa [indP, endS] using H.out.below hb), QOn.of hb HZ.out.2⟩
  case round =>
    obtain ⟨k, hk, hit, HW, HO⟩ := hrel
    by_cases hlt : k < m
    · have hks : k < s.size := by omega
      obtain ⟨z, hz⟩ : ∃ z, z = s[k]'hks := ⟨_, rfl⟩
      have hkb : k < bs.length := by rw [← HN.out]; exact hlt
      have hzb : z = bs[k] := by
        have h1 := HS.out
        subst h1
        rw [hz]; rfl
      have hzp := HP.out z (by rw [hzb]; exact List.getElem_mem _)
      have hzp2 : z.toNat = 10 ∨ (32 ≤ z.toNat ∧ z.toNat ≤ 126) := by
        rcases hzp with h | h
        · left; rw [h]; rfl
        · exact .inr h
      have hz1 : z.toNat < 128 := by omega
      have q1 : (((z.toNat : Nat) : Int) == 27) = false := by
        simp; omega
      have hnx : ∀ ty, (Instr.next (.pointer (some ⟨w.heap.size, 0, none⟩)) true ty).run Tryd.prog wr = _ := fun ty => Go.Lib.run_next_ascii_at wr w.heap.size s k ty hit hks (by rw [← hz]; exact hz1)
      rw [← hz] at hnx
      have HTK : bs.take (k + 1) = bs.take k ++ [z] := by
        rw [hzb, List.take_add_one, List.getElem?_eq_getElem hkb]; rfl
      have hW1 := HW.out.iterAt hit (k + 1)
      have hO1 := HO.out.iterAt HZ.out.2 (Nat.le_refl _) s (k + 1)
      have hi1 := Go.Lib.iterAt_heap wr w.heap.size s k (k + 1) hit
      have hm1 := iterPos_at hit
      have hsn1 := indP_snoc p z (bs.take k) sk0
      have hen1 := endS_snoc sk0 (bs.take k) z
      rw [← HTK] at hsn1 hen1
      obtain ⟨lk, hlk2⟩ : ∃ lk, lk = l0 ++ indP p sk0 (bs.take k) := ⟨_, rfl⟩
      obtain ⟨sk, hsk⟩ : ∃ sk, sk = endS sk0 (bs.take k) := ⟨_, rfl⟩
      have hend : lk ++ ((if sk = true then [] else p) ++ [z]) = l0 ++ indP p sk0 (bs.take (k + 1)) := by rw [hsn1, hlk2, hsk, List.append_assoc]
      rw [← hlk2, ← hsk] at hW1
      have HEND := Go.Lib.hid hend
      have HEN := Go.Lib.hid hen1
      obtain ⟨W1, hW⟩ : ∃ W, W = wr.iterAt w.heap.size s (k + 1) := ⟨_, rfl⟩
      rw [← hW] at hnx hW1 hO1 hi1
      have HW1 := Go.Lib.hid hW1
      have H1 := Go.Lib.hid (And.intro hO1 (And.intro hi1 hm1))
      have HFIT : Hid (Fit mm (l0 ++ indP p sk0 (bs.take (k + 1)))) := HL.out k hkb
      have HZS : Hid (Pla [z]) := fun c hc => by rw [List.mem_singleton] at hc; rw [hc]; exact hzp
      have q7 := hW1.c7
      have q6 := hW1.c6
      have hiz := hW1.lt.1
      have hes : ∀ W, (convert 21 9 (.int .i32 (z.toNat : Nat))).run Tryd.prog W = .ok (.string (tx [z])) W := fun W => by
        rw [← encode_one z hz1]
        exact run_convert_int_string W 21 9 .i32 _ (by kernel_rfl) (by kernel_rfl)
      clear hW1 hO1 hi1 hm1 hW hit hzb hz HW HO hend hen1 hsn1 HTK hlk2 hsk hzp hzp2
      cases sk
      · have q0 := HW1.out.c0
        have q2 := HW1.out.c2
        have qn := HW1.out.c1
        have HRS := Go.Lib.hid (qreset_any B ab pw ab2 mm lk W1 HW1.out.sp)
        have b0 : Below W1.heap.size W1 W1.drew := (Below.refl _ _).drew
        have HLP : Hid (Fit mm (lk ++ p)) := by
          have h1 := HFIT.out
          rw [← HEND.out, if_neg (by decide), ← List.append_assoc] at h1
          exact Go.Lib.hid h1.pre
        go_wp2_with fail
        refine HRS.out.mono ?_
        rintro e w2 ⟨rfl, rfl⟩
        go_wp2_with fail
        refine region_held_tail 16 (S := (fun w' => w'.cell? ⟨iw, 2, none⟩ = some (.pointer (some ⟨ab, 0, none⟩)) ∧ w'.cell? ⟨iw, 0, none⟩ = some (.int .u64 (n : Nat)))) (by kernel_rfl) (by kernel_rfl) ?_ (fun hHeld => ?_)
        · (try dsimp only); first | done | (first | exact ⟨q2, q0⟩ | exact ⟨d2, d0⟩ | exact ⟨e2, e0⟩ | exact ⟨g2, g0⟩)
        refine HeldT.take (i := 0) (v := ?_) (by simp only [List.getElem?_toArray, List.getElem?_cons_succ, List.getElem?_cons_zero]; rfl) (by kernel_rfl) (by kernel_rfl) (by kernel_rfl) (by kernel_rfl) (by exact fun _ _ _ h => h) ?_ (by assumption) ?_
        rotate_left
        · refine Or.inl ⟨by rfl, ?_⟩
          (intro w hSw; (try dsimp only at hSw); go_simp; try with_reducible rfl)
        try simp only [Act.put, List.setIfInBounds_toArray, List.set_cons_zero, List.set_cons_succ]
        refine HeldT.take (i := 1) (v := ?_) (by simp only [List.getElem?_toArray, List.getElem?_cons_succ, List.getElem?_cons_zero]; rfl) (by kernel_rfl) (by kernel_rfl) (by kernel_rfl) (by kernel_rfl) (by exact fun _ _ _ h => h) ?_ (by assumption) ?_
        rotate_left
        · refine Or.inl ⟨by rfl, ?_⟩
          (intro w hSw; (try dsimp only at hSw); go_simp; try with_reducible rfl)
        try simp only [Act.put, List.setIfInBounds_toArray, List.set_cons_zero, List.set_cons_succ]
        refine HeldT.take (i := 2) (v := ?_) (by simp only [List.getElem?_toArray, List.getElem?_cons_succ, List.getElem?_cons_zero]; rfl) (by kernel_rfl) (by kernel_rfl) (by kernel_rfl) (by kernel_rfl) (by exact fun _ _ _ h => h) ?_ (by assumption) ?_
        rotate_left
        · refine Or.inl ⟨by rfl, ?_⟩
          (intro w hSw; (try dsimp only at hSw); go_simp; try with_reducible rfl)
        try simp only [Act.put, List.setIfInBounds_toArray, List.set_cons_zero, List.set_cons_succ]
        refine HeldT.take (i := 3) (v := ?_) (by simp only [List.getElem?_toArray, List.getElem?_cons_succ, List.getElem?_cons_zero]; rfl) (by kernel_rfl) (by kernel_rfl) (by kernel_rfl) (by kernel_rfl) (by exact fun _ _ _ h => h) ?_ (by assumption) ?_
        rotate_left
        · refine Or.inl ⟨by rfl, ?_⟩
          (intro w hSw; (try dsimp only at hSw); go_simp; try with_reducible rfl)
        try simp only [Act.put, List.setIfInBounds_toArray, List.set_cons_zero, List.set_cons_succ]
        refine HeldT.take (i := 4) (v := ?_) (by simp only [List.getElem?_toArray, List.getElem?_cons_succ, List.getElem?_cons_zero]; rfl) (by kernel_rfl) (by kernel_rfl) (by kernel_rfl) (by kernel_rfl) (by exact fun _ _ _ h => h) ?_ (by assumption) ?_
        rotate_left
        · refine Or.inl ⟨by rfl, ?_⟩
          (intro w hSw; (try dsimp only at hSw); go_simp; try with_reducible rfl)
        try simp only [Act.put, List.setIfInBounds_toArray, List.set_cons_zero, List.set_cons_succ]
        refine HeldT.take (i := 5) (v := ?_) (by simp only [List.getElem?_toArray, List.getElem?_cons_succ, List.getElem?_cons_zero]; rfl) (by kernel_rfl) (by kernel_rfl) (by kernel_rfl) (by kernel_rfl) (by exact fun _ _ _ h => h) ?_ (by assumption) ?_
        rotate_left
        · refine Or.inl ⟨by rfl, ?_⟩
          (intro w hSw; (try dsimp only at hSw); go_simp; try with_reducible rfl)
        try simp only [Act.put, List.setIfInBounds_toArray, List.set_cons_zero, List.set_cons_succ]
        refine HeldT.take (i := 6) (v := ?_) (by simp only [List.getElem?_toArray, List.getElem?_cons_succ, List.getElem?_cons_zero]; rfl) (by kernel_rfl) (by kernel_rfl) (by kernel_rfl) (by kernel_rfl) (by exact fun _ _ _ h => h) ?_ (by assumption) ?_
        rotate_left
        · refine Or.inl ⟨by rfl, ?_⟩
          (intro w hSw; (try dsimp only at hSw); go_simp; try with_reducible rfl)
        try simp only [Act.put, List.setIfInBounds_toArray, List.set_cons_zero, List.set_cons_succ]
        refine HeldT.take (i := 7) (v := ?_) (by simp only [List.getElem?_toArray, List.getElem?_cons_succ, List.getElem?_cons_zero]; rfl) (by kernel_rfl) (by kernel_rfl) (by kernel_rfl) (by kernel_rfl) (by exact fun _ _ _ h => h) ?_ (by assumption) ?_
        rotate_left
        · refine Or.inl ⟨by rfl, ?_⟩
          (intro w hSw; (try dsimp only at hSw); go_simp; try with_reducible rfl)
        try simp only [Act.put, List.setIfInBounds_toArray, List.set_cons_zero, List.set_cons_succ]
        refine HeldT.take (i := 8) (v := ?_) (by simp only [List.getElem?_toArray, List.getElem?_cons_succ, List.getElem?_cons_zero]; rfl) (by kernel_rfl) (by kernel_rfl) (by kernel_rfl) (by kernel_rfl) (by exact fun _ _ _ h => h) ?_ (by assumption) ?_
        rotate_left
        · refine Or.inl ⟨by rfl, ?_⟩
          (intro w hSw; (try dsimp only at hSw); go_simp; try with_reducible rfl)
        try simp only [Act.put, List.setIfInBounds_toArray, List.set_cons_zero, List.set_cons_succ]
        refine HeldT.one (i := 9) (by simp only [List.getElem?_toArray, List.getElem?_cons_succ, List.getElem?_cons_zero]; rfl) (by kernel_rfl) (by kernel_rfl) (fun K hK => ?_)
        go_simp
        ((refine (HRP.out _).mono ?_); rintro e w9 ⟨rfl, b9⟩; obtain ⟨c9, W9, hcv9, bm9, t9⟩ := made_tx p w9; have I9 := HW1.out.below (b0.trans b9); have I10 := I9.below bm9; have d2 := I9.c2; have d0 := I9.c0; have e2 := I10.c2; have e0 := I10.c0; have O9 := Go.Lib.hid ((QOn.of (X := X) (iw := iw) (ab := ab) (pw := pw) (ab2 := ab2) (b0.trans b9) HW1.out.lt.2).trans (QOn.of bm9 I9.lt.2)); have HA := Go.Lib.hid (qaw_write B ab pw ab2 mm lk p (some ⟨w9.heap.size, 0, none⟩) c9 W9 I10.sp t9 hm HPP.out HLP.out.1 HLP.out.2); have T := Go.Lib.hid I10; clear I9 I10 bm9 t9 b9)
        try go_wp2_with fail
        refine hK.out _ _ ?_ (fun hHeld => ?_)
        · (try dsimp only); first | done | (first | exact ⟨q2, q0⟩ | exact ⟨d2, d0⟩ | exact ⟨e2, e0⟩ | exact ⟨g2, g0⟩)
        clear hK K
        try simp only [Act.put, List.setIfInBounds_toArray, List.set_cons_zero, List.set_cons_succ]
        refine HeldT.one (i := 10) (by simp only [List.getElem?_toArray, List.getElem?_cons_succ, List.getElem?_cons_zero]; rfl) (by kernel_rfl) (by kernel_rfl) (fun K hK => ?_)
        go_simp
        refine hK.out _ _ ?_ (fun hHeld => ?_)
        · (try dsimp only); first | done | (first | exact ⟨q2, q0⟩ | exact ⟨d2, d0⟩ | exact ⟨e2, e0⟩ | exact ⟨g2, g0⟩)
        clear hK K
        try simp only [Act.put, List.setIfInBounds_toArray, List.set_cons_zero, List.set_cons_succ]
        refine HeldT.one (i := 11) (by simp only [List.getElem?_toArray, List.getElem?_cons_succ, List.getElem?_cons_zero]; rfl) (by kernel_rfl) (by kernel_rfl) (fun K hK => ?_)
        go_simp
        ((refine HA.out.mono ?_); rintro e w11 ⟨rfl, s11, o11⟩; have I11 := T.out.on s11 o11; have g2 := I11.c2; have g0 := I11.c0; have g6 := I11.c6; have g66 := I11.f 6; have gz := I11.lt.1; have J11 := Go.Lib.hid (And.intro I11 (O9.out.trans o11.qOn)); clear I11 s11 o11)
        try go_wp2_with fail
        refine hK.out _ _ ?_ (fun hHeld => ?_)
        · (try dsimp only); first | done | (first | exact ⟨q2, q0⟩ | exact ⟨d2, d0⟩ | exact ⟨e2, e0⟩ | exact ⟨g2, g0⟩)
        clear hK K
        try simp only [Act.put, List.setIfInBounds_toArray, List.set_cons_zero, List.set_cons_succ]
        refine HeldT.take (i := 12) (v := ?_) (by simp only [List.getElem?_toArray, List.getElem?_cons_succ, List.getElem?_cons_zero]; rfl) (by kernel_rfl) (by kernel_rfl) (by kernel_rfl) (by kernel_rfl) (by exact fun _ _ _ h => h) ?_ (by assumption) ?_
        rotate_left
        · refine Or.inl ⟨by rfl, ?_⟩
          (intro w hSw; (try dsimp only at hSw); go_simp; try with_reducible rfl)
        try simp only [Act.put, List.setIfInBounds_toArray, List.set_cons_zero, List.set_cons_succ]
        refine HeldT.take (i := 13) (v := ?_) (by simp only [List.getElem?_toArray, List.getElem?_cons_succ, List.getElem?_cons_zero]; rfl) (by kernel_rfl) (by kernel_rfl) (by kernel_rfl) (by kernel_rfl) (by exact fun _ _ _ h => h) ?_ (by assumption) ?_
        rotate_left
        · refine Or.inl ⟨by rfl, ?_⟩
          (intro w hSw; (try dsimp only at hSw); go_simp; try with_reducible rfl)
        try simp only [Act.put, List.setIfInBounds_toArray, List.set_cons_zero, List.set_cons_succ]
        refine HeldT.take (i := 14) (v := ?_) (by simp only [List.getElem?_toArray, List.getElem?_cons_succ, List.getElem?_cons_zero]; rfl) (by kernel_rfl) (by kernel_rfl) (by kernel_rfl) (by kernel_rfl) (by exact fun _ _ _ h => h) ?_ (by assumption) ?_
        rotate_left
        · refine Or.inl ⟨by rfl, ?_⟩
          (intro w hSw; (try dsimp only at hSw); go_simp; try with_reducible rfl)
        try simp only [Act.put, List.setIfInBounds_toArray, List.set_cons_zero, List.set_cons_succ]
        refine HeldT.take (i := 15) (v := ?_) (by simp only [List.getElem?_toArray, List.getElem?_cons_succ, List.getElem?_cons_zero]; rfl) (by kernel_rfl) (by kernel_rfl) (by kernel_rfl) (by kernel_rfl) (by exact fun _ _ _ h => h) ?_ (by assumption) ?_
        rotate_left
        · refine Or.inl ⟨by rfl, ?_⟩
          (intro w hSw; (try dsimp only at hSw); go_simp; try with_reducible rfl)
        try simp only [Act.put, List.setIfInBounds_toArray, List.set_cons_zero, List.set_cons_succ]
        refine HeldT.tail (by kernel_rfl) rfl ?_
        have HRR := Go.Lib.hid (qrestore_any B ab pw ab2 mm (lk ++ p) _ (J11.out.1.set true).1.sp hm HLP.out.1 HLP.out.2)
        go_wp2_with fail
        refine HRR.out.mono ?_
        rintro e w20 ⟨rfl, s20, o20⟩
        have I20 := Go.Lib.hid ((J11.out.1.set true).1.on s20 o20)
        have O20 := Go.Lib.hid (H1.out.1.trans (J11.out.2.trans ((J11.out.1.set true).2.trans o20.qOn)))
        have i20 := Go.Lib.hid (HW1.out.it (J11.out.2.trans ((J11.out.1.set true).2.trans o20.qOn)) H1.out.2.1)
        have HE20 : Hid ((lk ++ p) ++ [z] = l0 ++ indP p sk0 (bs.take (k + 1))) := by
          have := HEND.out
          refine Go.Lib.hid ?_
          rw [if_neg (by decide)] at this
          rw [List.append_assoc]; exact this
        have HL20 : Hid (Fit mm ((lk ++ p) ++ [z])) := by
          have h1 := HFIT.out
          rw [← HE20.out] at h1
          exact Go.Lib.hid h1
        clear s20 o20 q0 q2 qn q6 q7
        by_cases h10 : z = 10
        · have q10 : (((z.toNat : Nat) : Int) == 10) = true := by rw [h10]; rfl
          have H10 := Go.Lib.hid h10
          clear h10
          have m6 := I20.out.c6
          have mf := I20.out.f 6
          have m2 := I20.out.c2
          have mz := I20.out.lt.1
          obtain ⟨c23, W23, hcv23, b23, t23⟩ := made_tx [z] (w20.setCell ⟨iw, 6, none⟩ (.bool false))
          have I23 := Go.Lib.hid ((I20.out.set false).1.below b23)
          have hsz : (w20.setCell ⟨iw, 6, none⟩ (.bool false)).heap.size = w20.heap.size := by simp [World.setCell]
          rw [hsz] at hcv23 t23
          have HA2 : Hid (Calls Tryd.prog 53 #[.pointer (some ⟨ab, 0, none⟩), .slice (some ⟨w20.heap.size, 0, none⟩) 1 c23] W23 (QAwPost (fun k => X k ∨ k = iw) B ab pw ab2 mm (lk ++ p) [z] W23)) := Go.Lib.hid (qaw_write B ab pw ab2 mm (lk ++ p) [z] _ c23 W23 I23.out.sp t23 hm HZS.out HL20.out.1 HL20.out.2)
          have O23 := Go.Lib.hid (O20.out.trans ((I20.out.set false).2.trans (QOn.of b23 (I20.out.set false).1.lt.2)))
          have P23 := Go.Lib.hid (I20.out.it ((I20.out.set false).2.trans (QOn.of b23 (I20.out.set false).1.lt.2)) i20.out)
          simp only [List.length_cons, List.length_nil, Nat.zero_add] at hcv23
          clear b23 t23
          go_wp2_with fail
          refine HA2.out.mono ?_
          rintro e w24 ⟨rfl, s24, o24⟩
          have I24 := Go.Lib.hid (I23.out.on s24 o24)
          have O24 := Go.Lib.hid (O23.out.trans o24.qOn)
          have P24 := Go.Lib.hid (I23.out.it o24.qOn P23.out)
          clear s24 o24
          go_wp2_with fail
          go_roundw
          case rel =>
            refine ⟨k + 1, by omega, P24.out, ?_, O24.out⟩
            have h1 := I24.out
            rw [HE20.out] at h1
            rw [HEN.out, show (z != 10) = false by rw [H10.out]; rfl]
            exact Go.Lib.hid h1
          case measure =>
            have h1 := iterPos_at P24.out
            have h2 := H1.out.2.2
            omega
        · have q10 : (((z.toNat : Nat) : Int) == 10) = false := by
            have : z.toNat ≠ 10 := fun e => h10 (UInt8.toNat_inj.1 e)
            simp; omega
          have H10 := Go.Lib.hid h10
          clear h10
          have m6 := I20.out.c6
          have mf := I20.out.f 6
          have m2 := I20.out.c2
          have mz := I20.out.lt.1
          obtain ⟨c23, W23, hcv23, b23, t23⟩ := made_tx [z] w20
          have I23 := Go.Lib.hid (I20.out.below b23)
          have HA2 : Hid (Calls Tryd.prog 53 #[.pointer (some ⟨ab, 0, none⟩), .slice (some ⟨w20.heap.size, 0, none⟩) 1 c23] W23 (QAwPost (fun k => X k ∨ k = iw) B ab pw ab2 mm (lk ++ p) [z] W23)) := Go.Lib.hid (qaw_write B ab pw ab2 mm (lk ++ p) [z] _ c23 W23 I23.out.sp t23 hm HZS.out HL20.out.1 HL20.out.2)
          have O23 := Go.Lib.hid (O20.out.trans ((QOn.of b23 I20.out.lt.2)))
          have P23 := Go.Lib.hid (I20.out.it ((QOn.of b23 I20.out.lt.2)) i20.out)
          simp only [List.length_cons, List.length_nil, Nat.zero_add] at hcv23
          clear b23 t23
          go_wp2_with fail
          refine HA2.out.mono ?_
          rintro e w24 ⟨rfl, s24, o24⟩
          have I24 := Go.Lib.hid (I23.out.on s24 o24)
          have O24 := Go.Lib.hid (O23.out.trans o24.qOn)
          have P24 := Go.Lib.hid (I23.out.it o24.qOn P23.out)
          clear s24 o24
          go_wp2_with fail
          go_roundw
          case rel =>
            refine ⟨k + 1, by omega, P24.out, ?_, O24.out⟩
            have h1 := I24.out
            rw [HE20.out] at h1
            rw [HEN.out, show (z != 10) = true by simp [H10.out]]
            exact Go.Lib.hid h1
          case measure =>
            have h1 := iterPos_at P24.out
            have h2 := H1.out.2.2
            omega
      · have I20 := HW1
        have O20 := Go.Lib.hid H1.out.1
        have i20 := Go.Lib.hid H1.out.2.1
        have HE20 : Hid (lk ++ [z] = l0 ++ indP p sk0 (bs.take (k + 1))) := by
          have := HEND.out
          refine Go.Lib.hid ?_
          rw [if_pos rfl, List.nil_append] at this
          exact this
        have HL20 : Hid (Fit mm (lk ++ [z])) := by
          have h1 := HFIT.out
          rw [← HE20.out] at h1
          exact Go.Lib.hid h1
        by_cases h10 : z = 10
        · have q10 : (((z.toNat : Nat) : Int) == 10) = true := by rw [h10]; rfl
          have H10 := Go.Lib.hid h10
          clear h10
          have m6 := I20.out.c6
          have mf := I20.out.f 6
          have m2 := I20.out.c2
          have mz := I20.out.lt.1
          obtain ⟨c23, W23, hcv23, b23, t23⟩ := made_tx [z] (W1.setCell ⟨iw, 6, none⟩ (.bool false))
          have I23 := Go.Lib.hid ((I20.out.set false).1.below b23)
          have hsz : (W1.setCell ⟨iw, 6, none⟩ (.bool false)).heap.size = W1.heap.size := by simp [World.setCell]
          rw [hsz] at hcv23 t23
          have HA2 : Hid (Calls Tryd.prog 53 #[.pointer (some ⟨ab, 0, none⟩), .slice (some ⟨W1.heap.size, 0, none⟩) 1 c23] W23 (QAwPost (fun k => X k ∨ k = iw) B ab pw ab2 mm (lk) [z] W23)) := Go.Lib.hid (qaw_write B ab pw ab2 mm (lk) [z] _ c23 W23 I23.out.sp t23 hm HZS.out HL20.out.1 HL20.out.2)
          have O23 := Go.Lib.hid (O20.out.trans ((I20.out.set false).2.trans (QOn.of b23 (I20.out.set false).1.lt.2)))
          have P23 := Go.Lib.hid (I20.out.it ((I20.out.set false).2.trans (QOn.of b23 (I20.out.set false).1.lt.2)) i20.out)
          simp only [List.length_cons, List.length_nil, Nat.zero_add] at hcv23
          clear b23 t23
          go_wp2_with fail
          refine HA2.out.mono ?_
          rintro e w24 ⟨rfl, s24, o24⟩
          have I24 := Go.Lib.hid (I23.out.on s24 o24)
          have O24 := Go.Lib.hid (O23.out.trans o24.qOn)
          have P24 := Go.Lib.hid (I23.out.it o24.qOn P23.out)
          clear s24 o24
          go_wp2_with fail
          go_roundw
          case rel =>
            refine ⟨k + 1, by omega, P24.out, ?_, O24.out⟩
            have h1 := I24.out
            rw [HE20.out] at h1
            rw [HEN.out, show (z != 10) = false by rw [H10.out]; rfl]
            exact Go.Lib.hid h1
          case measure =>
            have h1 := iterPos_at P24.out
            have h2 := H1.out.2.2
            omega
        · have q10 : (((z.toNat : Nat) : Int) == 10) = false := by
            have : z.toNat ≠ 10 := fun e => h10 (UInt8.toNat_inj.1 e)
            simp; omega
          have H10 := Go.Lib.hid h10
          clear h10
          have m6 := I20.out.c6
          have mf := I20.out.f 6
          have m2 := I20.out.c2
          have mz := I20.out.lt.1
          obtain ⟨c23, W23, hcv23, b23, t23⟩ := made_tx [z] W1
          have I23 := Go.Lib.hid (I20.out.below b23)
          have HA2 : Hid (Calls Tryd.prog 53 #[.pointer (some ⟨ab, 0, none⟩), .slice (some ⟨W1.heap.size, 0, none⟩) 1 c23] W23 (QAwPost (fun k => X k ∨ k = iw) B ab pw ab2 mm (lk) [z] W23)) := Go.Lib.hid (qaw_write B ab pw ab2 mm (lk) [z] _ c23 W23 I23.out.sp t23 hm HZS.out HL20.out.1 HL20.out.2)
          have O23 := Go.Lib.hid (O20.out.trans ((QOn.of b23 I20.out.lt.2)))
          have P23 := Go.Lib.hid (I20.out.it ((QOn.of b23 I20.out.lt.2)) i20.out)
          simp only [List.length_cons, List.length_nil, Nat.zero_add] at hcv23
          clear b23 t23
          go_wp2_with fail
          refine HA2.out.mono ?_
          rintro e w24 ⟨rfl, s24, o24⟩
          have I24 := Go.Lib.hid (I23.out.on s24 o24)
          have O24 := Go.Lib.hid (O23.out.trans o24.qOn)
          have P24 := Go.Lib.hid (I23.out.it o24.qOn P23.out)
          clear s24 o24
          go_wp2_with fail
          go_roundw
          case rel =>
            refine ⟨k + 1, by omega, P24.out, ?_, O24.out⟩
            have h1 := I24.out
            rw [HE20.out] at h1
            rw [HEN.out, show (z != 10) = true by simp [H10.out]]
            exact Go.Lib.hid h1
          case measure =>
            have h1 := iterPos_at P24.out
            have h2 := H1.out.2.2
            omega
    · have hkn : k = m := by omega
      have hnx : ∀ ty, (Instr.next (.pointer (some ⟨w.heap.size, 0, none⟩)) true ty).run Tryd.prog wr = _ := fun ty => Go.Lib.run_next_end_at wr w.heap.size s k ty hit (by omega)
      have HE := Go.Lib.hid hkn
      clear hkn hit
      go_wp2_with fail
      go_returns
      refine ⟨by rw [← HN.out]; rfl, ?_, HO.out⟩
      have := HW.out
      rw [HE.out, HN.out, List.take_length] at this
      exact this
end Go.Proofs.YtbibokkclejapaaDoor
