/- The walk of laws.FnFilterKinds. -/
import Derived.Test.YtldlgipailfbnaaDoorFilterAll
import Derived.Test.YtldlgipailfbnaaDoorPickRow
namespace Go.Proofs.YtldlgipailfbnaaDoor
open Go.RowKit
set_option linter.unusedVariables false
set_option linter.unusedSimpArgs false

def SomeFiltered (k : Int) (f : Asks) : Prop := ∀ (any : Bool) (a : Option Addr) (cap : Nat) (ps : List Pk) (part : ByteArray) (w : World), IsPks w a ps → Fine ps → IsAscii part → part.size ≤ 60 →
    Calls Tryd.prog 7 #[.int .i64 k, .slice a ps.length cap, .string part, .bool any] w (PksPost (filt f any part ps) w)
theorem filtered1 : SomeFiltered 1 preA := fun any a cap ps part w h1 h2 h3 h4 => filtered_core 1 preA any a cap ps part w h1 h2 (by simp) h3 h4
theorem filtered2 : SomeFiltered 2 sufA := fun any a cap ps part w h1 h2 h3 h4 => filtered_core 2 sufA any a cap ps part w h1 h2 (by simp) h3 h4
theorem filtered3 : SomeFiltered 3 conA := fun any a cap ps part w h1 h2 h3 h4 => filtered_core 3 conA any a cap ps part w h1 h2 (by simp) h3 h4
theorem filtered4 : SomeFiltered 4 fuzA := fun any a cap ps part w h1 h2 h3 h4 => filtered_core 4 fuzA any a cap ps part w h1 h2 (by simp) h3 h4

namespace fnFilterKinds
set_option maxRecDepth 100000 in
set_option maxHeartbeats 8000000 in
theorem walk (a : Option Addr) (len cap : Nat) (ps : List Pk) (part : ByteArray) (any : Bool) (w : World) (w0 : ps.length = len ∧ IsPks w a ps) (hp : part.size ≤ maxLen) {X : Prop} (_hL : X) :
    Calls Tryd.prog 3 #[.slice a len cap, .string part, .bool any] w fun e w' => e = .returned (.bool true) ∧ Below w.heap.size w w' := by
  unfold maxLen at hp
  obtain ⟨rfl, h⟩ := w0
  have HH := Go.Lib.hid h
  clear h
  obtain ⟨n, hn⟩ : ∃ n, n = ps.length := ⟨_, rfl⟩
  have Hn := Go.Lib.hid hn
  rw [← hn]
  clear hn
  go_enter Tryd.func3, Tryd.ntmps3
  go_wp2_with fail
  rw [Hn.out]
  refine (fits3_any a cap ps w HH.out).mono ?_
  rw [← Hn.out]
  rintro e w1 ⟨b, rfl, hb, b1⟩
  have HB := Go.Lib.hid hb
  have B1 := Go.Lib.hid b1
  have H1 := Go.Lib.hid (HH.out.below b1)
  clear hb b1
  cases b
  · go_wp2_with fail
    go_returns
    exact ⟨rfl, B1.out⟩
  have HF := Go.Lib.hid (HB.out rfl)
  by_cases hbig : (2147483647 : Int) < part.size
  · go_wp2_with fail
    go_returns
    exact ⟨rfl, B1.out⟩
  go_wp2_with fail
  rw [Hn.out]
  refine (picks7_any a cap ps part w1 H1.out HF.out.1 HF.out.2 (by omega)).mono ?_
  rw [← Hn.out]
  rintro e w2 ⟨b, rfl, hb, rfl⟩
  have HB2 := Go.Lib.hid hb
  clear hb
  cases b
  · go_wp2_with fail
    go_returns
    exact ⟨rfl, B1.out⟩
  have HL := Go.Lib.hid (HB2.out rfl)
  have HFI : Hid (Fine ps) := ⟨by have := HL.out.1; omega, HL.out.2.1⟩
  have HPA : Hid (IsAscii part) := HL.out.2.2.1
  have hz : part.size ≤ 60 := HL.out.2.2.2
  have hs1 := B1.out.size
  clear HF HB HB2 HL
  go_wp2_with fail
  rw [Hn.out]
  refine (filtered1 any a cap ps part w1 H1.out HFI.out HPA.out hz).mono ?_
  rw [← Hn.out]
  rintro e w2 ⟨Aa, ca, rfl, pa, ba⟩
  have B2 : Hid (Below w.heap.size w w2) := B1.out.trans (ba.mono hs1)
  have hs2 := B2.out.size
  have H1' := Go.Lib.hid (H1.out.below ba)
  clear H1
  obtain ⟨Ra, hRa⟩ : ∃ R, R = filt preA any part ps := ⟨_, rfl⟩
  obtain ⟨na, hna⟩ : ∃ n, n = Ra.length := ⟨_, rfl⟩
  rw [← hRa] at pa ⊢
  rw [← hna]
  have HRa := Go.Lib.hid hRa
  have Hna := Go.Lib.hid hna
  have FRa : Fine Ra := by rw [hRa]; exact filt_fine HFI.out
  have FIa := Go.Lib.hid FRa
  have Pa := Go.Lib.hid pa
  clear pa ba hRa hna FRa
  go_wp2_with fail
  rw [Hn.out]
  refine (filtered2 any a cap ps part w2 H1'.out HFI.out HPA.out hz).mono ?_
  rw [← Hn.out]
  rintro e w3 ⟨Ab, cb, rfl, pb, bb⟩
  have B3 : Hid (Below w.heap.size w w3) := B2.out.trans (bb.mono hs2)
  have hs3 := B3.out.size
  have H1'' := Go.Lib.hid (H1'.out.below bb)
  clear H1'
  have Pa' := Go.Lib.hid (Pa.out.below bb)
  clear Pa
  obtain ⟨Rb, hRb⟩ : ∃ R, R = filt sufA any part ps := ⟨_, rfl⟩
  obtain ⟨nb, hnb⟩ : ∃ n, n = Rb.length := ⟨_, rfl⟩
  rw [← hRb] at pb ⊢
  rw [← hnb]
  have HRb := Go.Lib.hid hRb
  have Hnb := Go.Lib.hid hnb
  have FRb : Fine Rb := by rw [hRb]; exact filt_fine HFI.out
  have FIb := Go.Lib.hid FRb
  have Pb := Go.Lib.hid pb
  clear pb bb hRb hnb FRb
  go_wp2_with fail
  rw [Hn.out]
  refine (filtered3 any a cap ps part w3 H1''.out HFI.out HPA.out hz).mono ?_
  rw [← Hn.out]
  rintro e w4 ⟨Ac, cc, rfl, pc, bc⟩
  have B4 : Hid (Below w.heap.size w w4) := B3.out.trans (bc.mono hs3)
  have hs4 := B4.out.size
  have H1''' := Go.Lib.hid (H1''.out.below bc)
  clear H1''
  have Pa'' := Go.Lib.hid (Pa'.out.below bc)
  clear Pa'
  have Pb' := Go.Lib.hid (Pb.out.below bc)
  clear Pb
  obtain ⟨Rc, hRc⟩ : ∃ R, R = filt conA any part ps := ⟨_, rfl⟩
  obtain ⟨nc, hnc⟩ : ∃ n, n = Rc.length := ⟨_, rfl⟩
  rw [← hRc] at pc ⊢
  rw [← hnc]
  have HRc := Go.Lib.hid hRc
  have Hnc := Go.Lib.hid hnc
  have FRc : Fine Rc := by rw [hRc]; exact filt_fine HFI.out
  have FIc := Go.Lib.hid FRc
  have Pc := Go.Lib.hid pc
  clear pc bc hRc hnc FRc
  go_wp2_with fail
  rw [Hn.out]
  refine (filtered4 any a cap ps part w4 H1'''.out HFI.out HPA.out hz).mono ?_
  rw [← Hn.out]
  rintro e w5 ⟨Ad, cd, rfl, pd, bd⟩
  have B5 : Hid (Below w.heap.size w w5) := B4.out.trans (bd.mono hs4)
  have hs5 := B5.out.size
  have H1'''' := Go.Lib.hid (H1'''.out.below bd)
  clear H1'''
  have Pa''' := Go.Lib.hid (Pa''.out.below bd)
  clear Pa''
  have Pb'' := Go.Lib.hid (Pb'.out.below bd)
  clear Pb'
  have Pc' := Go.Lib.hid (Pc.out.below bd)
  clear Pc
  obtain ⟨Rd, hRd⟩ : ∃ R, R = filt fuzA any part ps := ⟨_, rfl⟩
  obtain ⟨nd, hnd⟩ : ∃ n, n = Rd.length := ⟨_, rfl⟩
  rw [← hRd] at pd ⊢
  rw [← hnd]
  have HRd := Go.Lib.hid hRd
  have Hnd := Go.Lib.hid hnd
  have FRd : Fine Rd := by rw [hRd]; exact filt_fine HFI.out
  have FId := Go.Lib.hid FRd
  have Pd := Go.Lib.hid pd
  clear pd bd hRd hnd FRd
  go_wp2_with fail
  rw [Hna.out]
  refine (filtered3 any Aa ca Ra part w5 Pa'''.out FIa.out HPA.out hz).mono ?_
  rw [← Hna.out]
  rintro e w6 ⟨Ae, ce, rfl, pe, be⟩
  have B6 : Hid (Below w.heap.size w w6) := B5.out.trans (be.mono hs5)
  have hs6 := B6.out.size
  have H1''''' := Go.Lib.hid (H1''''.out.below be)
  clear H1''''
  have Pa'''' := Go.Lib.hid (Pa'''.out.below be)
  clear Pa'''
  have Pb''' := Go.Lib.hid (Pb''.out.below be)
  clear Pb''
  have Pc'' := Go.Lib.hid (Pc'.out.below be)
  clear Pc'
  have Pd' := Go.Lib.hid (Pd.out.below be)
  clear Pd
  rw [show filt conA any part Ra = Ra by rw [HRa.out]; exact filt_again (fun _ _ h => preA_con h) any part ps] at pe ⊢
  rw [← Hna.out]
  have Pe := Go.Lib.hid pe
  clear pe be
  go_wp2_with fail
  rw [Hna.out]
  refine (same7_any Ae Aa ce ca Ra w6 Pe.out Pa''''.out (by have := FIa.out.1; omega)).mono ?_
  rw [← Hna.out]
  rintro e w6' ⟨rfl, be⟩
  have B7 : Hid (Below w.heap.size w w6') := B6.out.trans (be.mono hs6)
  have hs7 := B7.out.size
  have H1'''''' := Go.Lib.hid (H1'''''.out.below be)
  clear H1'''''
  have Pa''''' := Go.Lib.hid (Pa''''.out.below be)
  clear Pa''''
  have Pb'''' := Go.Lib.hid (Pb'''.out.below be)
  clear Pb'''
  have Pc''' := Go.Lib.hid (Pc''.out.below be)
  clear Pc''
  have Pd'' := Go.Lib.hid (Pd'.out.below be)
  clear Pd'
  clear be Pe
  go_wp2_with fail
  rw [Hnb.out]
  refine (filtered3 any Ab cb Rb part w6' Pb''''.out FIb.out HPA.out hz).mono ?_
  rw [← Hnb.out]
  rintro e w8 ⟨Af, cf, rfl, pf, bf⟩
  have B8 : Hid (Below w.heap.size w w8) := B7.out.trans (bf.mono hs7)
  have hs8 := B8.out.size
  have H1''''''' := Go.Lib.hid (H1''''''.out.below bf)
  clear H1''''''
  have Pa'''''' := Go.Lib.hid (Pa'''''.out.below bf)
  clear Pa'''''
  have Pb''''' := Go.Lib.hid (Pb''''.out.below bf)
  clear Pb''''
  have Pc'''' := Go.Lib.hid (Pc'''.out.below bf)
  clear Pc'''
  have Pd''' := Go.Lib.hid (Pd''.out.below bf)
  clear Pd''
  rw [show filt conA any part Rb = Rb by rw [HRb.out]; exact filt_again (fun _ _ h => sufA_con h) any part ps] at pf ⊢
  rw [← Hnb.out]
  have Pf := Go.Lib.hid pf
  clear pf bf
  go_wp2_with fail
  rw [Hnb.out]
  refine (same7_any Af Ab cf cb Rb w8 Pf.out Pb'''''.out (by have := FIb.out.1; omega)).mono ?_
  rw [← Hnb.out]
  rintro e w8' ⟨rfl, bf⟩
  have B9 : Hid (Below w.heap.size w w8') := B8.out.trans (bf.mono hs8)
  have hs9 := B9.out.size
  have H1'''''''' := Go.Lib.hid (H1'''''''.out.below bf)
  clear H1'''''''
  have Pa''''''' := Go.Lib.hid (Pa''''''.out.below bf)
  clear Pa''''''
  have Pb'''''' := Go.Lib.hid (Pb'''''.out.below bf)
  clear Pb'''''
  have Pc''''' := Go.Lib.hid (Pc''''.out.below bf)
  clear Pc''''
  have Pd'''' := Go.Lib.hid (Pd'''.out.below bf)
  clear Pd'''
  clear bf Pf
  go_wp2_with fail
  rw [Hnc.out]
  refine (filtered4 any Ac cc Rc part w8' Pc'''''.out FIc.out HPA.out hz).mono ?_
  rw [← Hnc.out]
  rintro e w10 ⟨Ag, cg, rfl, pg, bg⟩
  have B10 : Hid (Below w.heap.size w w10) := B9.out.trans (bg.mono hs9)
  have hs10 := B10.out.size
  have H1''''''''' := Go.Lib.hid (H1''''''''.out.below bg)
  clear H1''''''''
  have Pa'''''''' := Go.Lib.hid (Pa'''''''.out.below bg)
  clear Pa'''''''
  have Pb''''''' := Go.Lib.hid (Pb''''''.out.below bg)
  clear Pb''''''
  have Pc'''''' := Go.Lib.hid (Pc'''''.out.below bg)
  clear Pc'''''
  have Pd''''' := Go.Lib.hid (Pd''''.out.below bg)
  clear Pd''''
  rw [show filt fuzA any part Rc = Rc by rw [HRc.out]; exact filt_again (fun _ _ h => conA_fuz h) any part ps] at pg ⊢
  rw [← Hnc.out]
  have Pg := Go.Lib.hid pg
  clear pg bg
  go_wp2_with fail
  rw [Hnc.out]
  refine (same7_any Ag Ac cg cc Rc w10 Pg.out Pc''''''.out (by have := FIc.out.1; omega)).mono ?_
  rw [← Hnc.out]
  rintro e w10' ⟨rfl, bg⟩
  have B11 : Hid (Below w.heap.size w w10') := B10.out.trans (bg.mono hs10)
  have hs11 := B11.out.size
  have H1'''''''''' := Go.Lib.hid (H1'''''''''.out.below bg)
  clear H1'''''''''
  have Pa''''''''' := Go.Lib.hid (Pa''''''''.out.below bg)
  clear Pa''''''''
  have Pb'''''''' := Go.Lib.hid (Pb'''''''.out.below bg)
  clear Pb'''''''
  have Pc''''''' := Go.Lib.hid (Pc''''''.out.below bg)
  clear Pc''''''
  have Pd'''''' := Go.Lib.hid (Pd'''''.out.below bg)
  clear Pd'''''
  clear bg Pg
  go_wp2_with fail
  rw [Hnd.out]
  refine (filtered4 any Ad cd Rd part w10' Pd''''''.out FId.out HPA.out hz).mono ?_
  rw [← Hnd.out]
  rintro e w12 ⟨Ah, ch, rfl, ph, bh⟩
  have B12 : Hid (Below w.heap.size w w12) := B11.out.trans (bh.mono hs11)
  have hs12 := B12.out.size
  have H1''''''''''' := Go.Lib.hid (H1''''''''''.out.below bh)
  clear H1''''''''''
  have Pa'''''''''' := Go.Lib.hid (Pa'''''''''.out.below bh)
  clear Pa'''''''''
  have Pb''''''''' := Go.Lib.hid (Pb''''''''.out.below bh)
  clear Pb''''''''
  have Pc'''''''' := Go.Lib.hid (Pc'''''''.out.below bh)
  clear Pc'''''''
  have Pd''''''' := Go.Lib.hid (Pd''''''.out.below bh)
  clear Pd''''''
  rw [show filt fuzA any part Rd = Rd by rw [HRd.out]; exact filt_again (fun _ _ h => h) any part ps] at ph ⊢
  rw [← Hnd.out]
  have Ph := Go.Lib.hid ph
  clear ph bh
  go_wp2_with fail
  rw [Hnd.out]
  refine (same7_any Ah Ad ch cd Rd w12 Ph.out Pd'''''''.out (by have := FId.out.1; omega)).mono ?_
  rw [← Hnd.out]
  rintro e w12' ⟨rfl, bh⟩
  have B13 : Hid (Below w.heap.size w w12') := B12.out.trans (bh.mono hs12)
  have hs13 := B13.out.size
  have H1'''''''''''' := Go.Lib.hid (H1'''''''''''.out.below bh)
  clear H1'''''''''''
  have Pa''''''''''' := Go.Lib.hid (Pa''''''''''.out.below bh)
  clear Pa''''''''''
  have Pb'''''''''' := Go.Lib.hid (Pb'''''''''.out.below bh)
  clear Pb'''''''''
  have Pc''''''''' := Go.Lib.hid (Pc''''''''.out.below bh)
  clear Pc''''''''
  have Pd'''''''' := Go.Lib.hid (Pd'''''''.out.below bh)
  clear Pd'''''''
  clear bh Ph
  go_wp2_with fail
  rw [Hn.out]
  refine (filtered3 false a cap ps ⟨#[]⟩ w12' H1''''''''''''.out HFI.out (fun b hb => by cases hb) (by decide)).mono ?_
  rw [← Hn.out]
  rintro e w14 ⟨Ai, ci, rfl, pi, bi⟩
  have B14 : Hid (Below w.heap.size w w14) := B13.out.trans (bi.mono hs13)
  have hs14 := B14.out.size
  have H1''''''''''''' := Go.Lib.hid (H1''''''''''''.out.below bi)
  clear H1''''''''''''
  have Pa'''''''''''' := Go.Lib.hid (Pa'''''''''''.out.below bi)
  clear Pa'''''''''''
  have Pb''''''''''' := Go.Lib.hid (Pb''''''''''.out.below bi)
  clear Pb''''''''''
  have Pc'''''''''' := Go.Lib.hid (Pc'''''''''.out.below bi)
  clear Pc'''''''''
  have Pd''''''''' := Go.Lib.hid (Pd''''''''.out.below bi)
  clear Pd''''''''
  rw [filt_none] at pi ⊢
  rw [← Hn.out]
  have Pi := Go.Lib.hid pi
  clear pi bi
  go_wp2_with fail
  rw [Hn.out]
  refine (same7_any Ai a ci cap ps w14 Pi.out H1'''''''''''''.out (by have := HFI.out.1; omega)).mono ?_
  rw [← Hn.out]
  rintro e w14' ⟨rfl, bi⟩
  have B15 : Hid (Below w.heap.size w w14') := B14.out.trans (bi.mono hs14)
  have hs15 := B15.out.size
  have H1'''''''''''''' := Go.Lib.hid (H1'''''''''''''.out.below bi)
  clear H1'''''''''''''
  have Pa''''''''''''' := Go.Lib.hid (Pa''''''''''''.out.below bi)
  clear Pa''''''''''''
  have Pb'''''''''''' := Go.Lib.hid (Pb'''''''''''.out.below bi)
  clear Pb'''''''''''
  have Pc''''''''''' := Go.Lib.hid (Pc''''''''''.out.below bi)
  clear Pc''''''''''
  have Pd'''''''''' := Go.Lib.hid (Pd'''''''''.out.below bi)
  clear Pd'''''''''
  clear bi Pi
  go_wp2_with fail
  go_returns
  exact ⟨rfl, B15.out⟩
end fnFilterKinds
end Go.Proofs.YtldlgipailfbnaaDoor
