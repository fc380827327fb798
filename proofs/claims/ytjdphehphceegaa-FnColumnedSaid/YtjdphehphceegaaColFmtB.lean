/- goprompt.formatTexts. -/
import Derived.Test.YtjdphehphceegaaColRow
import Derived.Test.YtjdphehphceegaaShelf
import Derived.Deep.OwnRows
namespace Go.Proofs.Ytjdphehphceegaa
open Go.RowKit
set_option linter.unusedVariables false
set_option linter.unusedSimpArgs false

theorem made_any (n : Nat) (hn : n ≤ 1000) (w : World) : ∃ W, (Instr.makeSlice 22 (.int .i64 (n : Int)) (.int .i64 (n : Int))).run Try.prog w = .ok (.slice (some ⟨w.heap.size, 0, none⟩) n n) W ∧ StrFn W w.heap.size 0 n (fun _ => ⟨#[]⟩) ∧ Below w.heap.size w W := by
  obtain ⟨ib, hib, hz0, hz1, hz2⟩ := info_parts (show (Try.prog.info? 9).map (fun i => (i.zero, i.size, i.bytes)) = some (some (.string ⟨#[]⟩), 1, 16) by kernel_rfl)
  refine ⟨_, run_make_row (P := Try.prog) 22 9 ib _ Try.underlying22 hib hz0 hz1 rfl .i64 .i64 n (by rw [hz2]; omega) (by omega) w, ⟨by simp, fun j hj => ?_⟩, (Below.refl _ _).alloc (Nat.le_refl _) _⟩
  rw [Nat.zero_add, World.cell?, World.frozen?, show (w.alloc (.cells (madeCells #[Value.string ⟨#[]⟩] n) 9)).heap[w.heap.size]? = _ from heap_alloc_new w _]
  simp [madeCells, hj, Nat.mod_one]

/-- A row of the column. -/
def blanksC (n : Nat) : ByteArray := ⟨(Lib.repeatL [32] n).toArray⟩
theorem mx_ge (X : Nat → ByteArray) : ∀ k j, j < k → (clean (X j)).size ≤ mx X k
  | 0, _, h => absurd h (by omega)
  | k + 1, j, h => by
    rw [mx]
    by_cases e : j = k
    · subst e; omega
    · have := mx_ge X k j (by omega); omega
theorem repeatL_size (c : Nat) : (Lib.repeatL [(32 : UInt8)] c).length = c := by
  induction c with
  | zero => rfl
  | succ c ih => simp [Lib.repeatL, ih]; try omega
theorem blanksC_size (n : Nat) : (blanksC n).size = n := by
  show (Lib.repeatL [(32 : UInt8)] n).toArray.size = n
  simp [repeatL_size]
theorem rep_blanks (c : Nat) (w : World) (h : c ≤ 1000) : Calls Try.prog 16 #[.string ⟨#[32]⟩, .int .i64 c] w fun e w' => e = .returned (.string (blanksC c)) ∧ Below w.heap.size w w' :=
  Try.strings_Repeat ⟨#[32]⟩ c w (by omega) (by show 1 * _ ≤ _; omega)
theorem row_next {w : World} {b n j : Nat} {R : Nat → ByteArray} {z y : ByteArray} (h : StrFn w b 0 n (fun a => if a < j then R a else z)) (hj : j < n) (e : R j = y) :
    StrFn (w.setCell ⟨b, j, none⟩ (.string y)) b 0 n (fun a => if a < j + 1 then R a else z) := (show StrFn (w.setCell ⟨b, j, none⟩ (.string y)) b 0 n _ from Nat.zero_add j ▸ h.set j hj y).to fun a ha => by
  by_cases e1 : a = j
  · subst e1; simp [e]
  · by_cases e2 : a < j
    · simp [e1, e2, show a < j + 1 by omega]
    · simp [e1, e2, show ¬ a < j + 1 by omega]
def cell1 (p q t : ByteArray) (W : Nat) : ByteArray := if t.size ≤ W then p ++ t ++ blanksC (W - t.size) ++ q else p ++ cutDots t W ++ q
/-- How wide the rows are, without what stands around. -/
def wid (P Q most M : Nat) : Nat := if P + M + Q > most then most - P - Q else M

def FmtPost (n : Nat) (R : Nat → ByteArray) (Z : Nat) (B : Nat) (w : World) (e : Ending) (w' : World) : Prop := ∃ nb, e = .returned (.tuple #[.slice (some ⟨nb, 0, none⟩) n n, .int .i64 (Z : Nat)]) ∧ B ≤ nb ∧ StrFn w' nb 0 n R ∧ Below B w w'

set_option maxRecDepth 100000 in
set_option maxHeartbeats 4000000 in
theorem format_any (ob off n cap most : Nat) (X : Nat → ByteArray) (p q : ByteArray) (B : Nat) (w : World) (h : StrFn w ob off n X) (hB : B ≤ ob) (hn : n ≤ 12) (hX : ∀ j, j < n → (X j).size ≤ 100 ∧ Prt (clean (X j))) (hp : Prt p) (hq : Prt q) (hps : p.size + q.size ≤ 20) (hm : most ≤ 100) :
    Calls Try.prog 13 #[.slice (some ⟨ob, off, none⟩) n cap, .int .i64 (most : Nat), .string p, .string q] w
      (FmtPost n (fun j => if mx X n = 0 ∨ p.size + q.size + 3 ≥ most then ⟨#[]⟩ else cell1 p q (clean (X j)) (wid p.size q.size most (mx X n))) (if mx X n = 0 ∨ p.size + q.size + 3 ≥ most then 0 else p.size + wid p.size q.size most (mx X n) + q.size) B w) := by
  obtain ⟨R, hR⟩ : ∃ R : Nat → ByteArray, R = fun j => if mx X n = 0 ∨ p.size + q.size + 3 ≥ most then ⟨#[]⟩ else cell1 p q (clean (X j)) (wid p.size q.size most (mx X n)) := ⟨_, rfl⟩
  obtain ⟨Z, hZ⟩ : ∃ Z, Z = if mx X n = 0 ∨ p.size + q.size + 3 ≥ most then 0 else p.size + wid p.size q.size most (mx X n) + q.size := ⟨_, rfl⟩
  rw [← hR, ← hZ]
  have HRR : Hid (∀ j, R j = if mx X n = 0 ∨ p.size + q.size + 3 ≥ most then ⟨#[]⟩ else cell1 p q (clean (X j)) (wid p.size q.size most (mx X n))) := fun j => by rw [hR]
  have HZZ := Go.Lib.hid hZ
  clear hR hZ
  obtain ⟨W0, hmk, hrow, hbw⟩ := made_any n (by omega) w
  have HR := Go.Lib.hid hrow
  have HBW := Go.Lib.hid hbw
  have HH := Go.Lib.hid (h.below hbw)
  have HX := Go.Lib.hid hX
  have HPW := Go.Lib.hid fun w => width_any p hp (by omega) w
  have HQW := Go.Lib.hid fun w => width_any q hq (by omega) w
  have HDW := Go.Lib.hid fun w => width_any ⟨#[46, 46, 46]⟩ prt_dots (by decide) w
  have hlt := h.1
  have HZ := Go.Lib.hid hlt
  have HMX := Go.Lib.hid (mx_le X n (fun j hj => by have := (hX j hj).1; omega))
  clear hrow hbw h hX hp hq hlt
  go_enter Try.func13, Try.ntmps13
  go_wp2_with fail
  refine (HPW.out W0).mono ?_
  rintro e w1 ⟨rfl, k1⟩
  have K1 := Go.Lib.hid k1
  clear k1
  go_wp2_with fail
  refine (HQW.out w1).mono ?_
  rintro e w2 ⟨rfl, k2⟩
  have K2 := Go.Lib.hid (K1.out.trans (k2.mono K1.out.size))
  clear k2
  go_wp2_with fail
  refine (HDW.out w2).mono ?_
  rintro e w3 ⟨rfl, k3⟩
  have K3 := Go.Lib.hid (K2.out.trans (k3.mono K2.out.size))
  clear k3
  have hsz3 : ((⟨#[46, 46, 46]⟩ : ByteArray).size : Int) = 3 := rfl
  go_wp2_with fail
  have HO3 := Go.Lib.hid (HH.out.below K3.out)
  have HN3 := Go.Lib.hid (HR.out.below K3.out)
  have hz0 := HBW.out.size
  have hz1 := K3.out.size
  have hlt := HZ.out
  have HB3 : Hid (Below B w w3) := (HBW.out.mono (by omega)).trans (K3.out.mono (by omega))
  obtain ⟨nb, hnb⟩ : ∃ nb, nb = w.heap.size := ⟨_, rfl⟩
  rw [← hnb] at HN3 ⊢
  have HNB : Hid (B ≤ nb ∧ ob ≠ nb ∧ nb < w3.heap.size) := by have := HN3.out.1; exact ⟨by omega, by omega, this⟩
  clear hmk HR HBW HH HZ hz0 hz1 hlt K1 K2 K3 hnb HPW HQW HDW
  go_loopw [9, 16] (fun wd i wr => ∃ k : Nat, k ≤ n ∧ i = .int .i64 k ∧ wd = .int .i64 (mx X k : Nat) ∧ Hid (StrFn wr ob off n (fun j => if j < k then clean (X j) else X j)) ∧ Hid (StrFn wr nb 0 n (fun _ => ⟨#[]⟩)) ∧ Hid (Below B w wr)) (fun _ i _ => n - (intOf i).toNat)
  case atStart => exact ⟨0, Nat.zero_le _, rfl, rfl, HO3.out.to fun j _ => by simp, HN3.out, HB3.out⟩
  case round =>
    obtain ⟨k, hk, rfl, rfl, HO, HN, HW⟩ := hrel
    by_cases hlt : k < n
    · obtain ⟨c0, f0⟩ := HO.out.2 k hlt
      simp only [Nat.lt_irrefl, if_false] at c0
      obtain ⟨x1, x2⟩ := HX.out k hlt
      have hlo : ob < wr.heap.size := HO.out.1
      have HC := Go.Lib.hid fun w => clean_any (X k) (by omega) w
      have HWD := Go.Lib.hid fun w => width_any (clean (X k)) x2 (by have := dropB_len 13 (dropB 10 (X k)); have := dropB_len 10 (X k); unfold clean; omega) w
      have HMK : Hid (mx X (k + 1) = max (mx X k) (clean (X k)).size) := rfl
      have hmk1 := HMX.out k hk
      have hcs : (clean (X k)).size ≤ 1000 := by have := dropB_len 13 (dropB 10 (X k)); have := dropB_len 10 (X k); unfold clean; omega
      obtain ⟨y, hy⟩ : ∃ y, y = clean (X k) := ⟨_, rfl⟩
      have HY := Go.Lib.hid hy
      rw [← hy] at HC HWD HMK hcs
      generalize mx X k = m0 at HMK hmk1 ⊢
      clear x1 x2 hy
      go_wp2_with fail
      refine (HC.out wr).mono ?_
      rintro e w4 ⟨rfl, k4⟩
      have c1 := (k4.cell (p := ⟨ob, off + k, none⟩) hlo).trans c0
      have f1 := (k4.frozen (p := ⟨ob, off + k, none⟩) hlo).trans f0
      have hwz := HW.out.size
      have hnb := HNB.out
      have HO5 := Go.Lib.hid ((HO.out.below k4).set k hlt y)
      have HN5 : Hid (StrFn (w4.setCell ⟨ob, off + k, none⟩ (.string y)) nb 0 n (fun _ => ⟨#[]⟩)) := (HN.out.below k4).other hnb.2.1
      have HW5 : Hid (Below B w (w4.setCell ⟨ob, off + k, none⟩ (.string y))) := below_set (HW.out.trans (k4.mono (by omega))) _ _ _ hB
      have c5 := (HO5.out.2 k hlt).1
      simp only [if_true] at c5
      have hz5 : B ≤ (w4.setCell ⟨ob, off + k, none⟩ (.string y)).heap.size := by have := k4.size; simp [World.setCell]; omega
      have HZ5 := Go.Lib.hid hz5
      clear k4 hwz hnb hz5 c0 f0
      go_wp2_with fail
      refine (HWD.out _).mono ?_
      rintro e w6 ⟨rfl, k6⟩
      have HO6 : Hid (StrFn w6 ob off n (fun j => if j < k + 1 then clean (X j) else X j)) := (HO5.out.below k6).to fun j hj => by
        by_cases e : j = k
        · subst e; simp [HY.out]
        · by_cases e2 : j < k
          · simp [e, e2, show j < k + 1 by omega]
          · simp [e, e2, show ¬ j < k + 1 by omega]
      have HN6 := Go.Lib.hid (HN5.out.below k6)
      have HW6 := Go.Lib.hid (HW5.out.trans (k6.mono HZ5.out))
      clear k6 c5 c1 f1
      by_cases hgt : m0 < y.size
      · have q1 : (m0 : Int) < y.size := by omega
        have HME : Hid (mx X (k + 1) = y.size) := by have := HMK.out; show _ = _; omega
        clear hgt
        go_wp2_with fail
        go_roundw
        case rel => exact ⟨k + 1, by omega, by go_num, by rw [HME.out], HO6.out, HN6.out, HW6.out⟩
        case measure => simp [intOf]; omega
      · have q1 : ¬ (m0 : Int) < y.size := by omega
        have HME : Hid (mx X (k + 1) = m0) := by have := HMK.out; show _ = _; omega
        clear hgt
        go_wp2_with fail
        go_roundw
        case rel => exact ⟨k + 1, by omega, by go_num, by rw [HME.out], HO6.out, HN6.out, HW6.out⟩
        case measure => simp [intOf]; omega
    · obtain rfl : k = n := by omega
      have hmn := HMX.out k (Nat.le_refl _)
      have HOK : Hid (StrFn wr ob off k (fun j => clean (X j))) := HO.out.to fun j hj => by simp [hj]
      have HRk := HRR.out
      have HZk := HZZ.out
      have hge := mx_ge X k
      generalize mx X k = M at hmn HRk HZk hge ⊢
      have HGE := Go.Lib.hid hge
      clear hge
      have HRR := Go.Lib.hid HRk
      have HZZ := Go.Lib.hid HZk
      clear HRk HZk
      by_cases hM0 : M = 0
      · subst hM0
        have hZ0 : Z = 0 := by rw [HZZ.out, if_pos (.inl rfl)]
        subst hZ0
        go_wp2_with fail
        go_returns
        exact ⟨nb, rfl, HNB.out.1, HN.out.to fun j _ => by rw [HRR.out]; simp, HW.out⟩
      · have q0 : ((M : Int) == 0) = false := by simp; omega
        by_cases hmost : p.size + q.size + 3 ≥ most
        · have hZ0 : Z = 0 := by rw [HZZ.out, if_pos (.inr hmost)]
          have HRJ : Hid (∀ j, R j = ⟨#[]⟩) := fun j => by rw [HRR.out, if_pos (.inr hmost)]
          subst hZ0
          have q1 : (most : Int) ≤ (p.size : Int) + q.size + 3 := by omega
          clear hmost hM0
          go_wp2_with fail
          go_returns
          exact ⟨nb, rfl, HNB.out.1, HN.out.to fun j _ => (HRJ.out j).symm, HW.out⟩
        · have hZ1 : Z = p.size + wid p.size q.size most M + q.size := by rw [HZZ.out, if_neg (by omega)]
          have HRJ : Hid (∀ j, R j = cell1 p q (clean (X j)) (wid p.size q.size most M)) := fun j => by rw [HRR.out, if_neg (by omega)]
          have q1 : ¬ (most : Int) ≤ (p.size : Int) + q.size + 3 := by omega
          obtain ⟨V, hV⟩ : ∃ V, V = wid p.size q.size most M := ⟨_, rfl⟩
          have hV3 : V = M ∧ p.size + M + q.size ≤ most ∨ V = most - p.size - q.size ∧ most < p.size + M + q.size := by
            rw [hV]; unfold wid
            by_cases e : p.size + M + q.size > most
            · rw [if_pos e]; exact .inr ⟨rfl, e⟩
            · rw [if_neg e]; exact .inl ⟨rfl, by omega⟩
          rw [← hV] at hZ1 HRJ
          have HV3 := Go.Lib.hid hV3
          clear hV hM0 hmost HRR HZZ
          by_cases hfit : p.size + M + q.size ≤ most
          · obtain rfl : V = M := by have := HV3.out; omega
            have q2 : ¬ (most : Int) < (p.size : Int) + V + q.size := by omega
            have HVC : Hid (∀ j, j < k → V < (clean (X j)).size → 3 ≤ V) := fun j hj hv => by have := HGE.out j hj; omega
            clear hfit
            go_wp2_with fail
            go_loopw [18] (fun i wq => ∃ j : Nat, j ≤ k ∧ i = .int .i64 j ∧ Hid (StrFn wq ob off k (fun j => clean (X j))) ∧ Hid (StrFn wq nb 0 k (fun a => if a < j then R a else ⟨#[]⟩)) ∧ Hid (Below B w wq)) (fun i _ => k - (intOf i).toNat)
            case atStart => exact ⟨0, Nat.zero_le _, rfl, HOK.out, HN.out.to fun j _ => by simp, HW.out⟩
            case round =>
              obtain ⟨j, hj, rfl, HO2, HN2, HW2⟩ := hrel
              by_cases hlt : j < k
              · obtain ⟨c0, f0⟩ := HO2.out.2 j hlt
                obtain ⟨d0, g0⟩ := HN2.out.2 j hlt
                dsimp only at c0 d0
                obtain ⟨x1, x2⟩ := HX.out j hlt
                have hcs : (clean (X j)).size ≤ 1000 := by have := dropB_len 13 (dropB 10 (X j)); have := dropB_len 10 (X j); unfold clean; omega
                have hlo := HO2.out.1
                have hln := HN2.out.1
                have HR1 := Go.Lib.hid (HRJ.out j)
                have HWD := Go.Lib.hid fun w => width_any (clean (X j)) x2 (by omega) w
                have HTR := Go.Lib.hid fun (h3 : 3 ≤ V) (hn : V < (clean (X j)).size) w => truncate_any (clean (X j)) V x2 hcs h3 hn w
                have HFI := Go.Lib.hid fun (h3 : 3 ≤ V) (hn : V < (clean (X j)).size) w => fill_any (cutDots (clean (X j)) V) V (prt_cut _ _ x2) (by rw [cutDots_size _ _ h3 hn]; omega) (by rw [cutDots_size _ _ h3 hn]; exact Nat.le_refl _) w
                have HRP := Go.Lib.hid fun (hn : (clean (X j)).size ≤ V) w => rep_blanks (V - (clean (X j)).size) w (by omega)
                have HVJ := Go.Lib.hid (HVC.out j hlt)
                generalize clean (X j) = y at c0 hcs HR1 HWD HTR HFI HRP HVJ
                clear x1 x2
                go_wp2_with fail
                refine (HWD.out wr).mono ?_
                rintro e w4 ⟨rfl, k4⟩
                have c1 := (k4.cell (p := ⟨ob, off + j, none⟩) hlo).trans c0
                have HO4 := Go.Lib.hid (HO2.out.below k4)
                have HN4 := Go.Lib.hid (HN2.out.below k4)
                have hwz := HW2.out.size
                have hzk := k4.size
                have hnbB := HNB.out
                have HW4 : Hid (Below B w w4) := HW2.out.trans (k4.mono (by omega))
                have hlo4 : ob < w4.heap.size := by omega
                have hln4 : nb < w4.heap.size := by omega
                clear k4 c0 f0 d0 g0
                by_cases hyV : y.size ≤ V
                · have q3 : (y.size : Int) ≤ V := by omega
                  have hsb : (V : Int) - y.size = ((V - y.size : Nat) : Int) := by omega
                  have HR2 : Hid (R j = p ++ y ++ blanksC (V - y.size) ++ q) := by rw [HR1.out]; unfold cell1; rw [if_pos hyV]; exact rfl
                  have HRP2 := Go.Lib.hid (HRP.out hyV w4)
                  generalize hmm : V - y.size = mm at hsb HR2 HRP2
                  have hmz : mm ≤ 1000 := by omega
                  clear hyV hmm
                  have HBZ : Hid ((blanksC mm).size = mm) := blanksC_size mm
                  generalize blanksC mm = bl at HR2 HRP2 HBZ
                  go_wp2_with fail
                  refine HRP2.out.mono ?_
                  rintro e w5 ⟨rfl, k5⟩
                  have c5 := (k5.cell (p := ⟨ob, off + j, none⟩) hlo4).trans c1
                  have HO5 := Go.Lib.hid (HO4.out.below k5)
                  have HN5 := Go.Lib.hid (HN4.out.below k5)
                  obtain ⟨d5, g5⟩ := HN5.out.2 j hlt
                  dsimp only at d5
                  rw [if_neg (Nat.lt_irrefl j), Nat.zero_add] at d5
                  rw [Nat.zero_add] at g5
                  have hk5 := k5.size
                  have HW5 : Hid (Below B w w5) := HW4.out.trans (k5.mono (Nat.le_trans hnbB.1 (Nat.le_of_lt hln4)))
                  clear k5 c1
                  have hbz := HBZ.out
                  go_wp2_with fail
                  go_roundw
                  case rel => exact ⟨j + 1, by omega, by go_num, HO5.out.other (Ne.symm hnbB.2.1), row_next HN5.out hlt HR2.out, below_set HW5.out _ _ _ hnbB.1⟩
                  case measure => simp [intOf]; omega
                · have hyn : V < y.size := by omega
                  have q4 : (V : Int) < y.size := by omega
                  have h3 := HVJ.out hyn
                  have HR2 : Hid (R j = p ++ cutDots y V ++ q) := by rw [HR1.out]; unfold cell1; rw [if_neg hyV]; exact rfl
                  have HTR2 := Go.Lib.hid (HTR.out h3 hyn w4)
                  have HFI2 := Go.Lib.hid fun w => HFI.out h3 hyn w
                  have HCZ : Hid ((cutDots y V).size = V) := cutDots_size y V h3 hyn
                  generalize cutDots y V = ct at HR2 HTR2 HFI2 HCZ
                  clear HTR HFI HRP HVJ hyV hyn h3
                  go_wp2_with fail
                  refine HTR2.out.mono ?_
                  rintro e w5 ⟨rfl, k5⟩
                  have hk5 := k5.size
                  have HO5 := Go.Lib.hid (HO4.out.below k5)
                  have HN5 := Go.Lib.hid (HN4.out.below k5)
                  have hln5 := HN5.out.1
                  have HW5 : Hid (Below B w w5) := HW4.out.trans (k5.mono (Nat.le_trans hnbB.1 (Nat.le_of_lt hln4)))
                  clear k5 c1
                  go_wp2_with fail
                  refine (HFI2.out w5).mono ?_
                  rintro e w6 ⟨rfl, k6⟩
                  have HO6 := Go.Lib.hid (HO5.out.below k6)
                  have HN6 := Go.Lib.hid (HN5.out.below k6)
                  obtain ⟨d6, g6⟩ := HN6.out.2 j hlt
                  dsimp only at d6
                  rw [if_neg (Nat.lt_irrefl j), Nat.zero_add] at d6
                  rw [Nat.zero_add] at g6
                  have HW6 : Hid (Below B w w6) := HW5.out.trans (k6.mono (Nat.le_trans hnbB.1 (Nat.le_of_lt hln5)))
                  clear k6
                  have hcz := HCZ.out
                  go_wp2_with fail
                  go_roundw
                  case rel => exact ⟨j + 1, by omega, by go_num, HO6.out.other (Ne.symm hnbB.2.1), row_next HN6.out hlt HR2.out, below_set HW6.out _ _ _ hnbB.1⟩
                  case measure => simp [intOf]; omega
              · obtain rfl : j = k := by omega
                have hZc : ((Z : Nat) : Int) = p.size + V + q.size := by rw [hZ1]; simp
                go_wp2_with fail
                go_returns
                exact ⟨nb, by rw [hZc]; rfl, HNB.out.1, HN2.out.to fun a ha => by rw [if_pos ha], HW2.out⟩
          · have hVe : V = most - p.size - q.size := by have := HV3.out; omega
            have q2 : (most : Int) < (p.size : Int) + M + q.size := by omega
            have hs2 : (most : Int) - p.size - q.size = (V : Nat) := by omega
            have HVC : Hid (∀ j, j < k → V < (clean (X j)).size → 3 ≤ V) := fun j hj hv => by omega
            clear hVe hfit
            go_wp2_with fail
            go_loopw [18] (fun i wq => ∃ j : Nat, j ≤ k ∧ i = .int .i64 j ∧ Hid (StrFn wq ob off k (fun j => clean (X j))) ∧ Hid (StrFn wq nb 0 k (fun a => if a < j then R a else ⟨#[]⟩)) ∧ Hid (Below B w wq)) (fun i _ => k - (intOf i).toNat)
            case atStart => exact ⟨0, Nat.zero_le _, rfl, HOK.out, HN.out.to fun j _ => by simp, HW.out⟩
            case round =>
              obtain ⟨j, hj, rfl, HO2, HN2, HW2⟩ := hrel
              by_cases hlt : j < k
              · obtain ⟨c0, f0⟩ := HO2.out.2 j hlt
                obtain ⟨d0, g0⟩ := HN2.out.2 j hlt
                dsimp only at c0 d0
                obtain ⟨x1, x2⟩ := HX.out j hlt
                have hcs : (clean (X j)).size ≤ 1000 := by have := dropB_len 13 (dropB 10 (X j)); have := dropB_len 10 (X j); unfold clean; omega
                have hlo := HO2.out.1
                have hln := HN2.out.1
                have HR1 := Go.Lib.hid (HRJ.out j)
                have HWD := Go.Lib.hid fun w => width_any (clean (X j)) x2 (by omega) w
                have HTR := Go.Lib.hid fun (h3 : 3 ≤ V) (hn : V < (clean (X j)).size) w => truncate_any (clean (X j)) V x2 hcs h3 hn w
                have HFI := Go.Lib.hid fun (h3 : 3 ≤ V) (hn : V < (clean (X j)).size) w => fill_any (cutDots (clean (X j)) V) V (prt_cut _ _ x2) (by rw [cutDots_size _ _ h3 hn]; omega) (by rw [cutDots_size _ _ h3 hn]; exact Nat.le_refl _) w
                have HRP := Go.Lib.hid fun (hn : (clean (X j)).size ≤ V) w => rep_blanks (V - (clean (X j)).size) w (by omega)
                have HVJ := Go.Lib.hid (HVC.out j hlt)
                generalize clean (X j) = y at c0 hcs HR1 HWD HTR HFI HRP HVJ
                clear x1 x2
                go_wp2_with fail
                refine (HWD.out wr).mono ?_
                rintro e w4 ⟨rfl, k4⟩
                have c1 := (k4.cell (p := ⟨ob, off + j, none⟩) hlo).trans c0
                have HO4 := Go.Lib.hid (HO2.out.below k4)
                have HN4 := Go.Lib.hid (HN2.out.below k4)
                have hwz := HW2.out.size
                have hzk := k4.size
                have hnbB := HNB.out
                have HW4 : Hid (Below B w w4) := HW2.out.trans (k4.mono (by omega))
                have hlo4 : ob < w4.heap.size := by omega
                have hln4 : nb < w4.heap.size := by omega
                clear k4 c0 f0 d0 g0
                by_cases hyV : y.size ≤ V
                · have q3 : (y.size : Int) ≤ V := by omega
                  have hsb : (V : Int) - y.size = ((V - y.size : Nat) : Int) := by omega
                  have HR2 : Hid (R j = p ++ y ++ blanksC (V - y.size) ++ q) := by rw [HR1.out]; unfold cell1; rw [if_pos hyV]; exact rfl
                  have HRP2 := Go.Lib.hid (HRP.out hyV w4)
                  generalize hmm : V - y.size = mm at hsb HR2 HRP2
                  have hmz : mm ≤ 1000 := by omega
                  clear hyV hmm
                  have HBZ : Hid ((blanksC mm).size = mm) := blanksC_size mm
                  generalize blanksC mm = bl at HR2 HRP2 HBZ
                  go_wp2_with fail
                  refine HRP2.out.mono ?_
                  rintro e w5 ⟨rfl, k5⟩
                  have c5 := (k5.cell (p := ⟨ob, off + j, none⟩) hlo4).trans c1
                  have HO5 := Go.Lib.hid (HO4.out.below k5)
                  have HN5 := Go.Lib.hid (HN4.out.below k5)
                  obtain ⟨d5, g5⟩ := HN5.out.2 j hlt
                  dsimp only at d5
                  rw [if_neg (Nat.lt_irrefl j), Nat.zero_add] at d5
                  rw [Nat.zero_add] at g5
                  have hk5 := k5.size
                  have HW5 : Hid (Below B w w5) := HW4.out.trans (k5.mono (Nat.le_trans hnbB.1 (Nat.le_of_lt hln4)))
                  clear k5 c1
                  have hbz := HBZ.out
                  go_wp2_with fail
                  go_roundw
                  case rel => exact ⟨j + 1, by omega, by go_num, HO5.out.other (Ne.symm hnbB.2.1), row_next HN5.out hlt HR2.out, below_set HW5.out _ _ _ hnbB.1⟩
                  case measure => simp [intOf]; omega
                · have hyn : V < y.size := by omega
                  have q4 : (V : Int) < y.size := by omega
                  have h3 := HVJ.out hyn
                  have HR2 : Hid (R j = p ++ cutDots y V ++ q) := by rw [HR1.out]; unfold cell1; rw [if_neg hyV]; exact rfl
                  have HTR2 := Go.Lib.hid (HTR.out h3 hyn w4)
                  have HFI2 := Go.Lib.hid fun w => HFI.out h3 hyn w
                  have HCZ : Hid ((cutDots y V).size = V) := cutDots_size y V h3 hyn
                  generalize cutDots y V = ct at HR2 HTR2 HFI2 HCZ
                  clear HTR HFI HRP HVJ hyV hyn h3
                  go_wp2_with fail
                  refine HTR2.out.mono ?_
                  rintro e w5 ⟨rfl, k5⟩
                  have hk5 := k5.size
                  have HO5 := Go.Lib.hid (HO4.out.below k5)
                  have HN5 := Go.Lib.hid (HN4.out.below k5)
                  have hln5 := HN5.out.1
                  have HW5 : Hid (Below B w w5) := HW4.out.trans (k5.mono (Nat.le_trans hnbB.1 (Nat.le_of_lt hln4)))
                  clear k5 c1
                  go_wp2_with fail
                  refine (HFI2.out w5).mono ?_
                  rintro e w6 ⟨rfl, k6⟩
                  have HO6 := Go.Lib.hid (HO5.out.below k6)
                  have HN6 := Go.Lib.hid (HN5.out.below k6)
                  obtain ⟨d6, g6⟩ := HN6.out.2 j hlt
                  dsimp only at d6
                  rw [if_neg (Nat.lt_irrefl j), Nat.zero_add] at d6
                  rw [Nat.zero_add] at g6
                  have HW6 : Hid (Below B w w6) := HW5.out.trans (k6.mono (Nat.le_trans hnbB.1 (Nat.le_of_lt hln5)))
                  clear k6
                  have hcz := HCZ.out
                  go_wp2_with fail
                  go_roundw
                  case rel => exact ⟨j + 1, by omega, by go_num, HO6.out.other (Ne.symm hnbB.2.1), row_next HN6.out hlt HR2.out, below_set HW6.out _ _ _ hnbB.1⟩
                  case measure => simp [intOf]; omega
              · obtain rfl : j = k := by omega
                have hZc : ((Z : Nat) : Int) = p.size + V + q.size := by rw [hZ1]; simp
                go_wp2_with fail
                go_returns
                exact ⟨nb, by rw [hZc]; rfl, HNB.out.1, HN2.out.to fun a ha => by rw [if_pos ha], HW2.out⟩
end Go.Proofs.Ytjdphehphceegaa
