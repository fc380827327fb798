/- indent.Writer's Write where impl.by's closure writes a text for each blank. (Printed by gen/mkiby.py.) -/
import Derived.Test.YtbibokkclejapaaDoorIndAll
namespace Go.Proofs.YtbibokkclejapaaDoor
open Go.RowKit
set_option linter.unusedVariables false
set_option linter.unusedSimpArgs false
variable {X : Nat → Prop}

/-- A text so many times. -/
def rep (x : List UInt8) : Nat → List UInt8
  | 0 => []
  | n + 1 => rep x n ++ x
theorem rep_length (x : List UInt8) : ∀ n, (rep x n).length = n * x.length
  | 0 => by simp [rep]
  | n + 1 => by rw [rep, List.length_append, rep_length x n, Nat.succ_mul]
theorem rep_mem (x : List UInt8) (c : UInt8) : ∀ n, c ∈ rep x n → c ∈ x
  | 0, h => by simp [rep] at h
  | n + 1, h => by
    rw [rep] at h
    rcases List.mem_append.1 h with h | h
    · exact rep_mem x c n h
    · exact h

set_option maxHeartbeats 800000 in
theorem by_cl (B ab b q g : Nat) (l bl : List UInt8) (w : World) (h : SW X B ab b q w l) (hc : w.cell? ⟨g, 0, none⟩ = some (.string (tx bl))) (hp : ∀ c ∈ bl, c.toNat < 128 ∧ c.toNat ≠ 27) (hl : l.length + bl.length ≤ 900000) :
    Calls Tryd.prog 51 #[.iface 69 (.pointer (some ⟨ab, 0, none⟩)), .pointer (some ⟨g, 0, none⟩)] w fun e w' => e = .returned (.tuple #[]) ∧ SW X B ab b q w' (l ++ bl) ∧ On X B ab b q w w' := by
  obtain ⟨c, W, hcv, hb, ht⟩ := made_tx bl w
  have HA := Go.Lib.hid (aw_write B ab b q l bl _ c W (h.below hb) ht hp hl)
  have HO : Hid (On X B ab b q w W) := On.of hb h.lt.2.2.1 h.lt.1
  obtain ⟨m, hm⟩ : ∃ m, m = bl.length := ⟨_, rfl⟩
  obtain ⟨x, hx⟩ : ∃ x, x = tx bl := ⟨_, rfl⟩
  rw [← hm] at hcv HA
  rw [← hx] at hcv hc
  clear hb ht h hp hl hm hx
  go_enter Tryd.func51, Tryd.ntmps51
  go_wp2_with fail
  refine HA.out.mono ?_
  rintro e w1 ⟨rfl, s1, o1⟩
  have H1 := Go.Lib.hid (And.intro s1 (HO.out.trans o1))
  clear s1 o1
  go_wp2_with fail
  go_returns
  exact ⟨rfl, H1.out.1, H1.out.2⟩

set_option maxRecDepth 100000 in
set_option maxHeartbeats 1000000 in
theorem iw_by (B iw ab b q n g : Nat) (l0 bs bl : List UInt8) (sk0 : Bool) (a : Option Addr) (c : Nat) (w : World) (h : IW X B iw ab b q n (.func (.func 51) #[] #[.pointer (some ⟨g, 0, none⟩)]) w l0 sk0) (hn : n ≤ 1000) (ht : TextAt w a bs.length c (tx bs)) (hp : ∀ c ∈ bs, c.toNat < 128 ∧ c.toNat ≠ 27) (hl : l0.length + (indP (rep bl n) sk0 bs).length + (rep bl n).length ≤ 900000) (hbl : bs.length ≤ 900000) (hgB : g < B) (hgc : w.cell? ⟨g, 0, none⟩ = some (.string (tx bl))) (hpb : ∀ c ∈ bl, c.toNat < 128 ∧ c.toNat ≠ 27) :
    Calls Tryd.prog 34 #[.pointer (some ⟨iw, 0, none⟩), .slice a bs.length c] w (IwPost X B iw ab b q n (.func (.func 51) #[] #[.pointer (some ⟨g, 0, none⟩)]) (rep bl n) l0 bs sk0 w) := by
  have hcv := ht.2 w (Below.refl _ _)
  obtain ⟨s, hs⟩ : ∃ s, s = tx bs := ⟨_, rfl⟩
  obtain ⟨m, hm⟩ : ∃ m, m = bs.length := ⟨_, rfl⟩
  obtain ⟨p, hpp⟩ : ∃ p, p = rep bl n := ⟨_, rfl⟩
  have hsn : s.size = m := by rw [hs, tx_size, hm]
  have HZ := Go.Lib.hid h.lt
  have H := Go.Lib.hid h
  have HP := Go.Lib.hid hp
  have HS := Go.Lib.hid hs
  have HN := Go.Lib.hid hm
  have HL : Hid (∀ k, k < bs.length → (l0 ++ indP p sk0 (bs.take k)).length + p.length + 1 ≤ 900000) := fun k hk => by
    have h1 := indP_take p bs sk0 k hk
    rw [← hpp] at hl
    rw [List.length_append]
    omega
  have HBY : Hid (∀ (W : World) (l' : List UInt8), Below B w W → SW X B ab b q W l' → l'.length + bl.length ≤ 900000 → Calls Tryd.prog 51 #[.iface 69 (.pointer (some ⟨ab, 0, none⟩)), .pointer (some ⟨g, 0, none⟩)] W fun e w' => e = .returned (.tuple #[]) ∧ SW X B ab b q w' (l' ++ bl) ∧ On X B ab b q W w') := fun W l' hb hs hl' =>
    by_cl B ab b q g l' bl W hs ((hb.cell (p := ⟨g, 0, none⟩) hgB).trans hgc) hpb hl'
  have HPN : Hid (∀ j, j < n → (rep bl j).length + bl.length ≤ p.length) := fun j hj => by
    rw [hpp, rep_length, rep_length]
    have := Nat.mul_le_mul_right bl.length (show j + 1 ≤ n from hj)
    rw [Nat.succ_mul] at this
    exact this
  have HPP := Go.Lib.hid hpp
  have hm2 : m ≤ 900000 := by omega
  rw [← hs, ← hm] at hcv
  rw [← hm, ← hpp]
  have hnf : ∀ W, (binOp .neq 68 (.func (.func 51) #[] #[.pointer (some ⟨g, 0, none⟩)]) .nilFunc).run Tryd.prog W = .ok (.bool true) W := fun W => by kernel_rfl
  have hwn : IntKind.i64.wrap (n : Int) = n := wrap_small n (by omega) (by omega)
  clear ht hs hm h hp hl hbl hpp hgB hgc hpb
  go_enter Tryd.func34, Tryd.ntmps34
  go_wp2_with fail
  go_loopw [] (fun wr => ∃ k : Nat, k ≤ m ∧ wr.heap[w.heap.size]? = some (.stringIter s k) ∧ Hid (IW X B iw ab b q n (.func (.func 51) #[] #[.pointer (some ⟨g, 0, none⟩)]) wr (l0 ++ indP p sk0 (bs.take k)) (endS sk0 (bs.take k))) ∧ Hid (IOn X B iw ab b w wr)) (fun wr => s.size - wr.iterPos w.heap.size)
  case atStart =>
    have hb : Below w.heap.size w (w.iter s 0) := (Below.refl _ _).alloc (Nat.le_refl _) _
    exact ⟨0, Nat.zero_le _, World.iter_heap w s 0, Go.Lib.hid (by simpa [indP, endS] using H.out.below hb), IOn.of hb HZ.out.2⟩
  case round =>
    obtain ⟨k, hk, hit, HW, HO⟩ := hrel
    by_cases hlt : k < m
    · have hks : k < s.size := by omega
      obtain ⟨z, hz⟩ : ∃ z, z = s[k]'hks := ⟨_, rfl⟩
      have hkb : k < bs.length := by rw [← HN.out]; exact hlt
      have hzb : z = bs[k] := by
        have h1 := HS.out
        subst h1
        rw [hz]; rfl
      have hzp := HP.out z (by rw [hzb]; exact List.getElem_mem _)
      have hz1 := hzp.1
      have q1 : (((z.toNat : Nat) : Int) == 27) = false := by
        have := hzp.2
        simp; omega
      have hnx : ∀ ty, (Instr.next (.pointer (some ⟨w.heap.size, 0, none⟩)) true ty).run Tryd.prog wr = _ := fun ty => Go.Lib.run_next_ascii_at wr w.heap.size s k ty hit hks (by rw [← hz]; exact hz1)
      rw [← hz] at hnx
      have HTK : bs.take (k + 1) = bs.take k ++ [z] := by
        rw [hzb, List.take_add_one, List.getElem?_eq_getElem hkb]; rfl
      have hW1 := HW.out.iterAt hit (k + 1)
      have hO1 := HO.out.iterAt HZ.out.2 (Nat.le_refl _) s (k + 1)
      have hi1 := Go.Lib.iterAt_heap wr w.heap.size s k (k + 1) hit
      have hm1 := iterPos_at hit
      have hlk := HL.out k hkb
      have hsn1 := indP_snoc p z (bs.take k) sk0
      have hen1 := endS_snoc sk0 (bs.take k) z
      rw [← HTK] at hsn1 hen1
      obtain ⟨lk, hlk2⟩ : ∃ lk, lk = l0 ++ indP p sk0 (bs.take k) := ⟨_, rfl⟩
      obtain ⟨sk, hsk⟩ : ∃ sk, sk = endS sk0 (bs.take k) := ⟨_, rfl⟩
      have hend : lk ++ ((if sk = true then [] else p) ++ [z]) = l0 ++ indP p sk0 (bs.take (k + 1)) := by rw [hsn1, hlk2, hsk, List.append_assoc]
      rw [← hlk2, ← hsk] at hW1
      rw [← hlk2] at hlk
      have HEND := Go.Lib.hid hend
      have HEN := Go.Lib.hid hen1
      obtain ⟨W1, hW⟩ : ∃ W, W = wr.iterAt w.heap.size s (k + 1) := ⟨_, rfl⟩
      rw [← hW] at hnx hW1 hO1 hi1
      have HW1 := Go.Lib.hid hW1
      have H1 := Go.Lib.hid (And.intro hO1 (And.intro hi1 hm1))
      have HLK := Go.Lib.hid hlk
      have q7 := hW1.c7
      have q6 := hW1.c6
      have hiz := hW1.lt.1
      have hes : ∀ W, (convert 21 9 (.int .i32 (z.toNat : Nat))).run Tryd.prog W = .ok (.string (tx [z])) W := fun W => by
        rw [← encode_one z hz1]
        exact run_convert_int_string W 21 9 .i32 _ (by kernel_rfl) (by kernel_rfl)
      clear hW1 hO1 hi1 hm1 hW hit hzb hz HW HO hend hen1 hsn1 HTK hlk2 hsk hlk
      cases sk
      · have HRS := Go.Lib.hid (reset_any B ab b q lk W1 HW1.out.sw)
        have q2 := HW1.out.c2
        have qn := HW1.out.c1
        have HLP : Hid (lk.length + p.length ≤ 900000) := by
          have := HLK.out
          refine Go.Lib.hid ?_
          omega
        have HW1B : Hid (Below B w W1) := H1.out.1.below
        go_wp2_with fail
        refine HRS.out.mono ?_
        rintro e w2 ⟨rfl, rfl⟩
        go_wp2_with fail
        go_loopw [8] (fun i wr => ∃ j : Nat, j ≤ n ∧ i = .int .i64 (j : Nat) ∧ Hid (IW X B iw ab b q n (.func (.func 51) #[] #[.pointer (some ⟨g, 0, none⟩)]) wr (lk ++ rep bl j) false) ∧ Hid (IOn X B iw ab b W1 wr)) (fun i _ => n - (intOf i).toNat)
        case atStart => exact ⟨0, Nat.zero_le _, rfl, Go.Lib.hid (by simpa [rep] using HW1.out), IOn.refl _ _ _ _ _⟩
        case round =>
          obtain ⟨j, hj, rfl, HJ, HJO⟩ := hrel
          have j0 := HJ.out.c0
          have j1 := HJ.out.c1
          have j2 := HJ.out.c2
          have jz := HJ.out.lt.1
          clear q2 qn q6 q7
          by_cases hjn : j < n
          · have HB1 : Hid (∀ nq, Calls Tryd.prog 51 #[.iface 69 (.pointer (some ⟨ab, 0, none⟩)), .pointer (some ⟨g, 0, none⟩)] (wr.drewN nq) fun e w' => e = .returned (.tuple #[]) ∧ SW X B ab b q w' (lk ++ rep bl (j + 1)) ∧ On X B ab b q wr w') := fun nq => by
              have hb := below_drewN (Below.refl wr.heap.size wr) nq
              have h1 := HPN.out j hjn
              have h2 := HLP.out
              refine (HBY.out _ (lk ++ rep bl j) (HW1B.out.trans (HJO.out.below.trans (hb.mono HJ.out.lt.2))) (HJ.out.sw.below hb) (by rw [List.length_append]; omega)).mono ?_
              rintro e w' ⟨rfl, s1, o1⟩
              rw [List.append_assoc] at s1
              exact ⟨rfl, s1, (On.of hb HJ.out.lt.2 HJ.out.sw.lt.1).trans o1⟩
            go_wp2_with fail
            refine region_quiet_tail 9 (by kernel_rfl) (by kernel_rfl) ?_
            simp only [List.take_succ_cons, List.take_zero, List.drop_succ_cons, List.drop_zero]
            repeat (go_big_quiet_step (fail))
            refine wpQuiet_nil ?_
            intro _ hw'
            obtain ⟨nq, hw''⟩ := hw'
            subst hw''
            go_wp2_with fail
            refine (HB1.out _).mono ?_
            rintro e w5 ⟨rfl, s5, o5⟩
            have H5 := Go.Lib.hid (And.intro s5 o5)
            clear s5 o5
            go_wp2_with fail
            go_roundw
            case rel => exact ⟨j + 1, by omega, by go_num, HJ.out.on H5.out.1 H5.out.2, HJO.out.trans H5.out.2.iOn⟩
            case measure => simp [intOf]; omega
          · obtain rfl : j = n := by omega
            have J11 : Hid (IW X B iw ab b q j (.func (.func 51) #[] #[.pointer (some ⟨g, 0, none⟩)]) wr (lk ++ p) false ∧ IOn X B iw ab b W1 wr) := by
              refine Go.Lib.hid ?_
              rw [HPP.out]
              exact ⟨HJ.out, HJO.out⟩
            have g6 := J11.out.1.c6
            have g66 := J11.out.1.f 6
            have HRR := Go.Lib.hid (restore_any B ab b q (lk ++ p) _ (J11.out.1.set true).1.sw (by have := HLK.out; rw [List.length_append]; omega))
            go_wp2_with fail
            refine HRR.out.mono ?_
            rintro e w20 ⟨rfl, s20, o20⟩
            have I20 := Go.Lib.hid ((J11.out.1.set true).1.on s20 o20)
            have O20 := Go.Lib.hid (H1.out.1.trans (J11.out.2.trans ((J11.out.1.set true).2.trans o20.iOn)))
            have i20 := Go.Lib.hid (HW1.out.it (J11.out.2.trans ((J11.out.1.set true).2.trans o20.iOn)) H1.out.2.1)
            have HL20 : Hid ((lk ++ p).length + 1 ≤ 900000) := by
              have := HLK.out
              refine Go.Lib.hid ?_
              rw [List.length_append]; omega
            have HE20 : Hid ((lk ++ p) ++ [z] = l0 ++ indP p sk0 (bs.take (k + 1))) := by
              have := HEND.out
              refine Go.Lib.hid ?_
              rw [if_neg (by decide)] at this
              rw [List.append_assoc]; exact this
            clear s20 o20 j0 j1 j2
            by_cases h10 : z = 10
            · have q10 : (((z.toNat : Nat) : Int) == 10) = true := by rw [h10]; rfl
              have H10 := Go.Lib.hid h10
              clear h10
              have m6 := I20.out.c6
              have mf := I20.out.f 6
              have m2 := I20.out.c2
              have mz := I20.out.lt.1
              obtain ⟨c23, W23, hcv23, b23, t23⟩ := made_tx [z] (w20.setCell ⟨iw, 6, none⟩ (.bool false))
              have I23 := Go.Lib.hid ((I20.out.set false).1.below b23)
              have hsz : (w20.setCell ⟨iw, 6, none⟩ (.bool false)).heap.size = w20.heap.size := by simp [World.setCell]
              rw [hsz] at hcv23 t23
              have HA2 : Hid (Calls Tryd.prog 53 #[.pointer (some ⟨ab, 0, none⟩), .slice (some ⟨w20.heap.size, 0, none⟩) 1 c23] W23 (AwPost X B ab b q (lk ++ p) [z] W23)) := Go.Lib.hid (aw_write B ab b q (lk ++ p) [z] _ c23 W23 I23.out.sw t23 (by intro c hc; rw [List.mem_singleton] at hc; rw [hc]; exact hzp) HL20.out)
              have O23 := Go.Lib.hid (O20.out.trans ((I20.out.set false).2.trans (IOn.of b23 (I20.out.set false).1.lt.2)))
              have P23 := Go.Lib.hid (I20.out.it ((I20.out.set false).2.trans (IOn.of b23 (I20.out.set false).1.lt.2)) i20.out)
              simp only [List.length_cons, List.length_nil, Nat.zero_add] at hcv23
              clear b23 t23
              go_wp2_with fail
              refine HA2.out.mono ?_
              rintro e w24 ⟨rfl, s24, o24⟩
              have I24 := Go.Lib.hid (I23.out.on s24 o24)
              have O24 := Go.Lib.hid (O23.out.trans o24.iOn)
              have P24 := Go.Lib.hid (I23.out.it o24.iOn P23.out)
              clear s24 o24
              go_wp2_with fail
              go_roundw
              case rel =>
                refine ⟨k + 1, by omega, P24.out, ?_, O24.out⟩
                have h1 := I24.out
                rw [HE20.out] at h1
                rw [HEN.out, show (z != 10) = false by rw [H10.out]; rfl]
                exact Go.Lib.hid h1
              case measure =>
                have h1 := iterPos_at P24.out
                have h2 := H1.out.2.2
                omega
            · have q10 : (((z.toNat : Nat) : Int) == 10) = false := by
                have : z.toNat ≠ 10 := fun e => h10 (UInt8.toNat_inj.1 e)
                simp; omega
              have H10 := Go.Lib.hid h10
              clear h10
              have m6 := I20.out.c6
              have mf := I20.out.f 6
              have m2 := I20.out.c2
              have mz := I20.out.lt.1
              obtain ⟨c23, W23, hcv23, b23, t23⟩ := made_tx [z] w20
              have I23 := Go.Lib.hid (I20.out.below b23)
              have HA2 : Hid (Calls Tryd.prog 53 #[.pointer (some ⟨ab, 0, none⟩), .slice (some ⟨w20.heap.size, 0, none⟩) 1 c23] W23 (AwPost X B ab b q (lk ++ p) [z] W23)) := Go.Lib.hid (aw_write B ab b q (lk ++ p) [z] _ c23 W23 I23.out.sw t23 (by intro c hc; rw [List.mem_singleton] at hc; rw [hc]; exact hzp) HL20.out)
              have O23 := Go.Lib.hid (O20.out.trans ((IOn.of b23 I20.out.lt.2)))
              have P23 := Go.Lib.hid (I20.out.it ((IOn.of b23 I20.out.lt.2)) i20.out)
              simp only [List.length_cons, List.length_nil, Nat.zero_add] at hcv23
              clear b23 t23
              go_wp2_with fail
              refine HA2.out.mono ?_
              rintro e w24 ⟨rfl, s24, o24⟩
              have I24 := Go.Lib.hid (I23.out.on s24 o24)
              have O24 := Go.Lib.hid (O23.out.trans o24.iOn)
              have P24 := Go.Lib.hid (I23.out.it o24.iOn P23.out)
              clear s24 o24
              go_wp2_with fail
              go_roundw
              case rel =>
                refine ⟨k + 1, by omega, P24.out, ?_, O24.out⟩
                have h1 := I24.out
                rw [HE20.out] at h1
                rw [HEN.out, show (z != 10) = true by simp [H10.out]]
                exact Go.Lib.hid h1
              case measure =>
                have h1 := iterPos_at P24.out
                have h2 := H1.out.2.2
                omega
      · have I20 := HW1
        have O20 := Go.Lib.hid H1.out.1
        have i20 := Go.Lib.hid H1.out.2.1
        have HL20 : Hid (lk.length + 1 ≤ 900000) := by
          have := HLK.out
          refine Go.Lib.hid ?_
          omega
        have HE20 : Hid (lk ++ [z] = l0 ++ indP p sk0 (bs.take (k + 1))) := by
          have := HEND.out
          refine Go.Lib.hid ?_
          rw [if_pos rfl, List.nil_append] at this
          exact this
        by_cases h10 : z = 10
        · have q10 : (((z.toNat : Nat) : Int) == 10) = true := by rw [h10]; rfl
          have H10 := Go.Lib.hid h10
          clear h10
          have m6 := I20.out.c6
          have mf := I20.out.f 6
          have m2 := I20.out.c2
          have mz := I20.out.lt.1
          obtain ⟨c23, W23, hcv23, b23, t23⟩ := made_tx [z] (W1.setCell ⟨iw, 6, none⟩ (.bool false))
          have I23 := Go.Lib.hid ((I20.out.set false).1.below b23)
          have hsz : (W1.setCell ⟨iw, 6, none⟩ (.bool false)).heap.size = W1.heap.size := by simp [World.setCell]
          rw [hsz] at hcv23 t23
          have HA2 : Hid (Calls Tryd.prog 53 #[.pointer (some ⟨ab, 0, none⟩), .slice (some ⟨W1.heap.size, 0, none⟩) 1 c23] W23 (AwPost X B ab b q (lk) [z] W23)) := Go.Lib.hid (aw_write B ab b q (lk) [z] _ c23 W23 I23.out.sw t23 (by intro c hc; rw [List.mem_singleton] at hc; rw [hc]; exact hzp) HL20.out)
          have O23 := Go.Lib.hid (O20.out.trans ((I20.out.set false).2.trans (IOn.of b23 (I20.out.set false).1.lt.2)))
          have P23 := Go.Lib.hid (I20.out.it ((I20.out.set false).2.trans (IOn.of b23 (I20.out.set false).1.lt.2)) i20.out)
          simp only [List.length_cons, List.length_nil, Nat.zero_add] at hcv23
          clear b23 t23
          go_wp2_with fail
          refine HA2.out.mono ?_
          rintro e w24 ⟨rfl, s24, o24⟩
          have I24 := Go.Lib.hid (I23.out.on s24 o24)
          have O24 := Go.Lib.hid (O23.out.trans o24.iOn)
          have P24 := Go.Lib.hid (I23.out.it o24.iOn P23.out)
          clear s24 o24
          go_wp2_with fail
          go_roundw
          case rel =>
            refine ⟨k + 1, by omega, P24.out, ?_, O24.out⟩
            have h1 := I24.out
            rw [HE20.out] at h1
            rw [HEN.out, show (z != 10) = false by rw [H10.out]; rfl]
            exact Go.Lib.hid h1
          case measure =>
            have h1 := iterPos_at P24.out
            have h2 := H1.out.2.2
            omega
        · have q10 : (((z.toNat : Nat) : Int) == 10) = false := by
            have : z.toNat ≠ 10 := fun e => h10 (UInt8.toNat_inj.1 e)
            simp; omega
          have H10 := Go.Lib.hid h10
          clear h10
          have m6 := I20.out.c6
          have mf := I20.out.f 6
          have m2 := I20.out.c2
          have mz := I20.out.lt.1
          obtain ⟨c23, W23, hcv23, b23, t23⟩ := made_tx [z] W1
          have I23 := Go.Lib.hid (I20.out.below b23)
          have HA2 : Hid (Calls Tryd.prog 53 #[.pointer (some ⟨ab, 0, none⟩), .slice (some ⟨W1.heap.size, 0, none⟩) 1 c23] W23 (AwPost X B ab b q (lk) [z] W23)) := Go.Lib.hid (aw_write B ab b q (lk) [z] _ c23 W23 I23.out.sw t23 (by intro c hc; rw [List.mem_singleton] at hc; rw [hc]; exact hzp) HL20.out)
          have O23 := Go.Lib.hid (O20.out.trans ((IOn.of b23 I20.out.lt.2)))
          have P23 := Go.Lib.hid (I20.out.it ((IOn.of b23 I20.out.lt.2)) i20.out)
          simp only [List.length_cons, List.length_nil, Nat.zero_add] at hcv23
          clear b23 t23
          go_wp2_with fail
          refine HA2.out.mono ?_
          rintro e w24 ⟨rfl, s24, o24⟩
          have I24 := Go.Lib.hid (I23.out.on s24 o24)
          have O24 := Go.Lib.hid (O23.out.trans o24.iOn)
          have P24 := Go.Lib.hid (I23.out.it o24.iOn P23.out)
          clear s24 o24
          go_wp2_with fail
          go_roundw
          case rel =>
            refine ⟨k + 1, by omega, P24.out, ?_, O24.out⟩
            have h1 := I24.out
            rw [HE20.out] at h1
            rw [HEN.out, show (z != 10) = true by simp [H10.out]]
            exact Go.Lib.hid h1
          case measure =>
            have h1 := iterPos_at P24.out
            have h2 := H1.out.2.2
            omega
    · have hkn : k = m := by omega
      have hnx : ∀ ty, (Instr.next (.pointer (some ⟨w.heap.size, 0, none⟩)) true ty).run Tryd.prog wr = _ := fun ty => Go.Lib.run_next_end_at wr w.heap.size s k ty hit (by omega)
      have HE := Go.Lib.hid hkn
      clear hkn hit
      go_wp2_with fail
      go_returns
      refine ⟨by rw [← HN.out]; rfl, ?_, HO.out⟩
      have := HW.out
      rw [HE.out, HN.out, List.take_length] at this
      exact this
end Go.Proofs.YtbibokkclejapaaDoor
