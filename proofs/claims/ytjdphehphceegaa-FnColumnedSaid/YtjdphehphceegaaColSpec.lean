/- spec.Columned. -/
import Derived.Test.YtjdphehphceegaaColImpl
import Derived.Test.YtjdphehphceegaaColKeep
namespace Go.Proofs.Ytjdphehphceegaa
open Go.RowKit
set_option linter.unusedVariables false
set_option linter.unusedSimpArgs false

theorem StrFn.at_ {w : World} {b n k : Nat} {f : Nat → ByteArray} (h : StrFn w b 0 n f) (hk : k < n) : w.cell? ⟨b, k, none⟩ = some (.string (f k)) ∧ w.frozen? ⟨b, k, none⟩ = false := by
  have := h.2 k hk
  rw [Nat.zero_add] at this
  exact this
theorem StrFn.set0 {w : World} {b n k : Nat} {f g : Nat → ByteArray} {y : ByteArray} (h : StrFn w b 0 n f) (hk : k < n) (e : g k = y) (e2 : ∀ j, j ≠ k → g j = f j) : StrFn (w.setCell ⟨b, k, none⟩ (.string y)) b 0 n g :=
  (show StrFn (w.setCell ⟨b, k, none⟩ (.string y)) b 0 n _ from Nat.zero_add k ▸ h.set k hk y).to fun a ha => by
    by_cases ea : a = k
    · subst ea; simp [e]
    · simp [ea, e2 a ea]

def strLen : Value → Nat | .string t => t.size | _ => 0
theorem app_nil (s : ByteArray) : s ++ ⟨#[]⟩ = s := bytes_ext (by simp)

set_option maxRecDepth 100000 in
set_option maxHeartbeats 4000000 in
theorem spec_col (a : Option Addr) (cap most : Nat) (ss : List ByteArray) (p q : ByteArray) (w : World) (h : IsStrs w a ss) (hn : ss.length ≤ 12) (hX : ∀ j, j < ss.length → (txt ss j).size ≤ 100)
    (hps : p.size + q.size ≤ 20) (hm : most ≤ 100) :
    Calls Try.prog 6 #[.slice a ss.length cap, .int .i64 (most : Nat), .string p, .string q] w (FmtPost ss.length (fmtR ss most p q) (fmtZ ss most p q) w.heap.size w) := by
  obtain ⟨X, hXX⟩ : ∃ X, X = txt ss := ⟨_, rfl⟩
  obtain ⟨n, hnn⟩ : ∃ n, n = ss.length := ⟨_, rfl⟩
  obtain ⟨R, hR⟩ : ∃ R, R = fmtR ss most p q := ⟨_, rfl⟩
  obtain ⟨Z, hZ⟩ : ∃ Z, Z = fmtZ ss most p q := ⟨_, rfl⟩
  rw [← hR, ← hZ, ← hnn]
  rw [← hnn, ← hXX] at hX
  have HRR : Hid (∀ j, R j = if mx X n = 0 ∨ p.size + q.size + 3 ≥ most then ⟨#[]⟩ else cell1 p q (clean (X j)) (wid p.size q.size most (mx X n))) := fun j => by rw [hR, hXX, hnn]; rfl
  have HZZ : Hid (Z = if mx X n = 0 ∨ p.size + q.size + 3 ≥ most then 0 else p.size + wid p.size q.size most (mx X n) + q.size) := by rw [hZ, hXX, hnn]; exact rfl
  have hin : n = 0 ∨ ∃ b off, a = some ⟨b, off, none⟩ ∧ b < w.heap.size ∧ ∀ i, i < n → w.cell? ⟨b, off + i, none⟩ = some (.string (X i)) := by
    rcases h with e | ⟨b, off, h1, h2, h3⟩
    · exact .inl (by rw [hnn, e]; rfl)
    · exact .inr ⟨b, off, h1, h2, fun i hi => by rw [hXX]; exact h3 i (by rw [← hnn]; exact hi)⟩
  have HIN := Go.Lib.hid hin
  have hn12 : n ≤ 12 := by omega
  clear hR hZ hXX hin h hnn hn
  obtain ⟨W0, hmk, hrow, hbw⟩ := made_any n (by omega) w
  obtain ⟨W1, hmk1, hrow1, hbw1⟩ := made_any n (by omega) W0
  have hz0 := hrow.1
  have hz1 := hrow1.1
  have HO := Go.Lib.hid (hrow.below hbw1)
  have HP := Go.Lib.hid hrow1
  have HW := Go.Lib.hid (hbw.trans (hbw1.mono hbw.size))
  obtain ⟨ob, hob⟩ : ∃ b, b = w.heap.size := ⟨_, rfl⟩
  obtain ⟨pb, hpb⟩ : ∃ b, b = W0.heap.size := ⟨_, rfl⟩
  rw [← hob] at hmk HO hz0
  rw [← hpb] at hmk1 HP hz1
  have hne : ob ≠ pb ∧ w.heap.size ≤ ob ∧ w.heap.size ≤ pb ∧ ob < W1.heap.size ∧ pb < W1.heap.size := ⟨by omega, by omega, by omega, HO.out.1, HP.out.1⟩
  have HNE := Go.Lib.hid hne
  have HX := Go.Lib.hid hX
  have HMX := Go.Lib.hid (mx_le X n (fun j hj => by have := hX j hj; omega))
  clear hrow hrow1 hbw hbw1 hz0 hz1 hob hpb hne hX
  go_enter Try.func6, Try.ntmps6
  go_wp2_with fail
  clear hmk hmk1
  go_loopw [12, 13] (fun wd i wr => ∃ k : Nat, k ≤ n ∧ i = .int .i64 k ∧ wd = .int .i64 (mx X k : Nat) ∧ Hid (StrFn wr pb 0 n (fun j => if j < k then clean (X j) else ⟨#[]⟩)) ∧ Hid (StrFn wr ob 0 n (fun _ => ⟨#[]⟩)) ∧ Hid (Below w.heap.size w wr)) (fun _ i _ => n - (intOf i).toNat)
  case atStart => exact ⟨0, Nat.zero_le _, rfl, rfl, HP.out.to fun j _ => by simp, HO.out, HW.out⟩
  case round =>
    obtain ⟨k, hk, rfl, rfl, HP1, HO1, HW1⟩ := hrel
    by_cases hlt : k < n
    · rcases HIN.out with e | ⟨b, off, rfl, hbl, hc⟩
      · omega
      have hck := hc k hlt
      have hxs := HX.out k hlt
      have hmk1 := HMX.out k hk
      have HMK : Hid (mx X (k + 1) = max (mx X k) (clean (X k)).size) := rfl
      obtain ⟨s, hs⟩ : ∃ s, s = X k := ⟨_, rfl⟩
      have HS := Go.Lib.hid hs
      rw [← hs] at hck hxs HMK
      generalize mx X k = m0 at HMK hmk1 ⊢
      obtain ⟨G, hG⟩ : ∃ G : Nat → ByteArray, G = fun j => if j < k then clean (X j) else ⟨#[]⟩ := ⟨_, rfl⟩
      have HG := Go.Lib.hid hG
      have HCK := Go.Lib.hid hck
      have hc1 := (HW1.out.cell (p := ⟨b, off + k, none⟩) hbl).trans hck
      clear hs hc hck
      rw [← hG] at HP1
      clear hG
      go_wp2_with fail
      go_loopw [14] (fun c wq => ∃ j : Nat, j ≤ s.size ∧ c = .int .i64 j ∧ Hid (StrFn wq pb 0 n (fun a => if a = k then keep s j else G a)) ∧ Hid (StrFn wq ob 0 n (fun _ => ⟨#[]⟩)) ∧ Hid (Below w.heap.size w wq)) (fun c _ => s.size - (intOf c).toNat)
      case atStart => exact ⟨0, Nat.zero_le _, rfl, HP1.out.to fun j _ => by
        by_cases e : j = k
        · subst e; simp [keep_zero, HG.out]
        · simp [e], HO1.out, HW1.out⟩
      case round =>
        obtain ⟨j, hj, rfl, HP2, HO2, HW2⟩ := hrel
        have hcs := (HW2.out.cell (p := ⟨b, off + k, none⟩) hbl).trans HCK.out
        by_cases hjs : j < s.size
        · obtain ⟨cp, fp⟩ := HP2.out.at_ hlt
          rw [if_pos rfl] at cp
          have hne := HNE.out
          have hlp := HP2.out.1
          by_cases e1 : (s[j].toNat : Int) = 10
          · have HK : Hid (keep s (j + 1) = keep s j) := keep_skip s j hjs (.inl (by omega))
            clear cp fp
            go_wp2_with fail
            go_roundw
            case rel => exact ⟨j + 1, by omega, by go_num, by rw [HK.out]; exact HP2.out, HO2.out, HW2.out⟩
            case measure => simp [intOf]; omega
          · by_cases e2 : (s[j].toNat : Int) = 13
            · have HK : Hid (keep s (j + 1) = keep s j) := keep_skip s j hjs (.inr (by omega))
              clear cp fp
              go_wp2_with fail
              go_roundw
              case rel => exact ⟨j + 1, by omega, by go_num, by rw [HK.out]; exact HP2.out, HO2.out, HW2.out⟩
              case measure => simp [intOf]; omega
            · have HK : Hid (keep s (j + 1) = keep s j ++ s.extract j (j + 1)) := keep_next s j hjs (by omega) (by omega)
              have hkl := keep_len s j hj
              generalize hkp : keep s j = t at HK cp hkl
              have HKP := Go.Lib.hid hkp
              clear hkp
              have hxl := size_sub s j (j + 1) (by omega)
              have hj1 : (j : Int) + 1 ≤ s.size := by omega
              have hsb : (j + 1 : Nat) - j = 1 := by omega
              have f1 : ((s[j].toNat : Int) != 10) = true := by simpa using e1
              have f2 : ((s[j].toNat : Int) != 13) = true := by simpa using e2
              go_wp2_with fail
              go_region
              go_wp2_with fail
              go_roundw
              case rel =>
                exact ⟨j + 1, by omega, by go_num, (show Hid (StrFn (wr.setCell ⟨pb, k, none⟩ (.string (t ++ s.extract j (j + 1)))) pb 0 n _) from HP2.out.set0 hlt (by rw [if_pos rfl, HK.out]) (fun a ha => by rw [if_neg ha, if_neg ha])), HO2.out.other (Ne.symm hne.1), (below_set HW2.out pb k (.string (t ++ s.extract j (j + 1))) hne.2.2.1).drew⟩
              case measure => simp [intOf]; omega
        · obtain rfl : j = s.size := by omega
          have hks : keep s s.size = clean s := keep_all s
          have HP3 : Hid (StrFn wr pb 0 n (fun j => if j < k + 1 then clean (X j) else ⟨#[]⟩)) := HP2.out.to fun a ha => by
            by_cases e : a = k
            · subst e; rw [if_pos rfl, if_pos (by omega), hks, HS.out]
            · rw [if_neg e, HG.out]
              by_cases e2 : a < k
              · simp [e2, show a < k + 1 by omega]
              · simp [e2, show ¬ a < k + 1 by omega]
          obtain ⟨cp, fp⟩ := HP2.out.at_ hlt
          rw [if_pos rfl, hks] at cp
          have hcl := keep_len s s.size (Nat.le_refl _)
          rw [hks] at hcl
          generalize clean s = y at cp hcl HMK
          clear hks
          by_cases hgt : m0 < y.size
          · have q1 : (m0 : Int) < y.size := by omega
            have HME : Hid (mx X (k + 1) = y.size) := by have := HMK.out; show _ = _; omega
            clear hgt
            go_wp2_with fail
            go_roundw
            case rel => exact ⟨k + 1, by omega, by go_num, by rw [HME.out]; exact congrArg _ (by omega), HP3.out, HO2.out, HW2.out⟩
            case measure => simp [intOf]; omega
          · have q1 : ¬ (m0 : Int) < y.size := by omega
            have HME : Hid (mx X (k + 1) = m0) := by have := HMK.out; show _ = _; omega
            go_wp2_with fail
            go_roundw
            case rel => exact ⟨k + 1, by omega, by go_num, by rw [HME.out]; exact congrArg _ (by omega), HP3.out, HO2.out, HW2.out⟩
            case measure => simp [intOf]; omega
    · obtain rfl : k = n := by omega -- END
      have hmn := HMX.out k (Nat.le_refl _)
      have hRk := HRR.out
      have hZk := HZZ.out
      have hge := mx_ge X k
      have HPK : Hid (StrFn wr pb 0 k (fun j => clean (X j))) := HP1.out.to fun a ha => by simp [ha]
      generalize mx X k = M at hmn hRk hZk hge ⊢
      have HRK := Go.Lib.hid hRk
      have HZK := Go.Lib.hid hZk
      have HGE := Go.Lib.hid hge
      clear hRk hZk hge HRR HZZ HMX
      by_cases hM0 : M = 0
      · subst hM0
        have hZ0 : Z = 0 := by rw [HZK.out, if_pos (.inl rfl)]
        subst hZ0
        go_wp2_with fail
        go_returns
        exact ⟨ob, rfl, HNE.out.2.1, HO1.out.to fun j _ => by rw [HRK.out]; simp, HW1.out⟩
      · have q0 : ((M : Int) == 0) = false := by simp; omega
        by_cases hmost : p.size + q.size + 3 ≥ most
        · have hZ0 : Z = 0 := by rw [HZK.out, if_pos (.inr hmost)]
          have HRJ : Hid (∀ j, R j = ⟨#[]⟩) := fun j => by rw [HRK.out, if_pos (.inr hmost)]
          subst hZ0
          have q1 : (most : Int) ≤ (p.size : Int) + q.size + 3 := by omega
          clear hmost hM0
          go_wp2_with fail
          go_returns
          exact ⟨ob, rfl, HNE.out.2.1, HO1.out.to fun j _ => (HRJ.out j).symm, HW1.out⟩
        · have hZ1 : Z = p.size + wid p.size q.size most M + q.size := by rw [HZK.out, if_neg (by omega)]
          have HRJ : Hid (∀ j, R j = cell1 p q (clean (X j)) (wid p.size q.size most M)) := fun j => by rw [HRK.out, if_neg (by omega)]
          have q1 : ¬ (most : Int) ≤ (p.size : Int) + q.size + 3 := by omega
          obtain ⟨V, hV⟩ : ∃ V, V = wid p.size q.size most M := ⟨_, rfl⟩
          have hVm : V = min M (most - p.size - q.size) := by
            rw [hV]; unfold wid
            by_cases e : p.size + M + q.size > most
            · rw [if_pos e]; omega
            · rw [if_neg e]; omega
          rw [← hV] at hZ1 HRJ
          obtain ⟨D, hD⟩ : ∃ D, D = most - p.size - q.size := ⟨_, rfl⟩
          have hd : (most : Int) - p.size - q.size = (D : Nat) := by omega
          have hmin : min (M : Int) (D : Nat) = (V : Nat) := by omega
          have HVC : Hid (∀ j, j < k → V < (clean (X j)).size → 3 ≤ V) := fun j hj hv => by have := HGE.out j hj; omega
          have hV100 : V ≤ 100 := by omega
          have hZc : (V : Int) + p.size + q.size = (Z : Nat) := by rw [hZ1]; omega
          have HZC := Go.Lib.hid hZc
          clear hV hM0 hmost HRK HZK hVm hD hZ1 hZc
          go_wp2_with fail
          clear hmin hd
          go_loopw [15] (fun i wq => ∃ j : Nat, j ≤ k ∧ i = .int .i64 j ∧ Hid (StrFn wq pb 0 k (fun j => clean (X j))) ∧ Hid (StrFn wq ob 0 k (fun a => if a < j then R a else ⟨#[]⟩)) ∧ Hid (Below w.heap.size w wq)) (fun i _ => k - (intOf i).toNat)
          case atStart => exact ⟨0, Nat.zero_le _, rfl, HPK.out, HO1.out.to fun a _ => by simp, HW1.out⟩
          case round =>
            obtain ⟨j, hj, rfl, HP2, HO2, HW2⟩ := hrel
            by_cases hltj : j < k
            · obtain ⟨cp, fp⟩ := HP2.out.at_ hltj
              obtain ⟨co, fo⟩ := HO2.out.at_ hltj
              rw [if_neg (Nat.lt_irrefl j)] at co
              have hcs : (clean (X j)).size ≤ 1000 := by have := dropB_len 13 (dropB 10 (X j)); have := dropB_len 10 (X j); have := HX.out j hltj; unfold clean; omega
              have HR1 := Go.Lib.hid (HRJ.out j)
              have HVJ := Go.Lib.hid (HVC.out j hltj)
              have hne := HNE.out
              have hlp := HP2.out.1
              have hlo := HO2.out.1
              generalize clean (X j) = y at cp hcs HR1 HVJ
              by_cases hyV : y.size ≤ V
              · have q3 : ¬ (V : Int) < y.size := by omega
                have HRK : Hid (R j = p ++ (y ++ blanksC (V - y.size)) ++ q) := Go.Lib.hid (by rw [HR1.out]; unfold cell1; rw [if_pos hyV]; simp only [ByteArray.append_assoc])
                clear HVJ HR1
                go_wp2_with fail
                have hz1 : ∀ m, (y ++ blanksC m).size = y.size + m := fun m => by rw [ByteArray.size_append, blanksC_size]
                have HZ1 := Go.Lib.hid hz1
                clear hz1
                go_loop [16] (fun s => ∃ m : Nat, m ≤ V - y.size ∧ s = .string (y ++ blanksC m)) (fun s => V - strLen s)
                case atStart => exact ⟨0, Nat.zero_le _, by rw [blanksC_zero]; exact congrArg _ (app_nil y).symm⟩
                case round =>
                  obtain ⟨m, hm, rfl⟩ := hrel
                  have hts := HZ1.out m
                  obtain ⟨t, ht⟩ : ∃ t, t = y ++ blanksC m := ⟨_, rfl⟩
                  have HT := Go.Lib.hid ht
                  rw [← ht] at hts ⊢
                  clear ht
                  by_cases hmv : m < V - y.size
                  · have q4 : (t.size : Int) < V := by omega
                    go_wp2_with fail
                    go_round
                    case rel => exact ⟨m + 1, by omega, by rw [HT.out, blanksC_next, ByteArray.append_assoc]⟩
                    case measure =>
                      simp [strLen]
                      show V - (t.size + 1) < V - t.size
                      omega
                  · obtain rfl : m = V - y.size := by omega
                    have q4 : ¬ (t.size : Int) < V := by omega
                    have HRT : Hid (R j = p ++ t ++ q) := by rw [HRK.out, HT.out]; exact rfl
                    have htV : t.size ≤ 1000 := by omega
                    clear hmv hm
                    go_wp2_with fail
                    go_roundw
                    case rel => exact ⟨j + 1, by omega, by go_num, HP2.out.other hne.1, HO2.out.set0 hltj (by rw [if_pos (Nat.lt_succ_self j), HRT.out]) (fun a ha => by
                      by_cases e : a < j
                      · rw [if_pos e, if_pos (by omega)]
                      · rw [if_neg e, if_neg (by omega)]), below_set HW2.out _ _ _ hne.2.1⟩
                    case measure => simp [intOf]; omega
              · have hyn : V < y.size := by omega
                have h3 := HVJ.out hyn
                have q3 : (V : Int) < y.size := by omega
                have hsub : IntKind.i64.wrap ((V : Int) - 3) = ((V - 3 : Nat) : Int) := by rw [IntWalk.i64_in _ (by omega)]; omega
                have hcz := cutDots_size y V h3 hyn
                have HRK : Hid (R j = p ++ (cutDots y V ++ blanksC (V - (cutDots y V).size)) ++ q) := Go.Lib.hid (by rw [HR1.out]; unfold cell1; rw [if_neg hyV, hcz, Nat.sub_self, blanksC_zero, app_nil])
                have hct : cutDots y V = y.extract 0 (V - 3) ++ ⟨#[46, 46, 46]⟩ := rfl
                generalize cutDots y V = ct at hcz HRK hct
                obtain ⟨m3, hm3⟩ : ∃ m, m = V - 3 := ⟨_, rfl⟩
                rw [← hm3] at hsub hct
                have hmy : m3 < y.size := by omega
                have hxs : (y.extract 0 m3).size = m3 := by have := size_sub y 0 m3 (by omega); omega
                clear HVJ HR1 hyV hyn hm3
                go_wp2_with fail
                rw [← hct]
                have hz1 : ∀ m, (ct ++ blanksC m).size = ct.size + m := fun m => by rw [ByteArray.size_append, blanksC_size]
                have HZ1 := Go.Lib.hid hz1
                clear hz1
                go_loop [16] (fun s => ∃ m : Nat, m ≤ V - ct.size ∧ s = .string (ct ++ blanksC m)) (fun s => V - strLen s)
                case atStart => exact ⟨0, Nat.zero_le _, by rw [blanksC_zero]; exact congrArg _ (app_nil ct).symm⟩
                case round =>
                  obtain ⟨m, hm, rfl⟩ := hrel
                  have hts := HZ1.out m
                  obtain ⟨t, ht⟩ : ∃ t, t = ct ++ blanksC m := ⟨_, rfl⟩
                  have HT := Go.Lib.hid ht
                  rw [← ht] at hts ⊢
                  clear ht
                  by_cases hmv : m < V - ct.size
                  · omega
                  · obtain rfl : m = V - ct.size := by omega
                    have q4 : ¬ (t.size : Int) < V := by omega
                    have HRT : Hid (R j = p ++ t ++ q) := by rw [HRK.out, HT.out]; exact rfl
                    have htV : t.size ≤ 1000 := by omega
                    clear hmv hm
                    go_wp2_with fail
                    go_roundw
                    case rel => exact ⟨j + 1, by omega, by go_num, HP2.out.other hne.1, HO2.out.set0 hltj (by rw [if_pos (Nat.lt_succ_self j), HRT.out]) (fun a ha => by
                      by_cases e : a < j
                      · rw [if_pos e, if_pos (by omega)]
                      · rw [if_neg e, if_neg (by omega)]), below_set HW2.out _ _ _ hne.2.1⟩
                    case measure => simp [intOf]; omega
            · obtain rfl : j = k := by omega
              have hZc := HZC.out
              go_wp2_with fail
              go_returns
              exact ⟨ob, by rw [← hZc]; rfl, HNE.out.2.1, HO2.out.to fun a ha => by rw [if_pos ha], HW2.out⟩
end Go.Proofs.Ytjdphehphceegaa
