/-
  THE WALK OF THE LAW FnScriptIsAShortestTrimmedScript.
-/
import Derived.Test.Qxb6603052aW12
namespace Go.Proofs.Qxb6603052a
open Go.RowKit
open My (F D L Vd sn back shortestOps scriptOps norm pre suf play stepO same eqAt)

set_option maxHeartbeats 8000000 in
set_option maxRecDepth 100000 in
theorem trimLaw_any (a0 a1 : Option Addr) (c0 c1 : Nat) (aa bb : List ByteArray) (w : World) (hm0 : aa.length ≤ maxLen) (hm1 : bb.length ≤ maxLen)
    (hs0 : ∀ s ∈ aa, s.size ≤ maxLen) (hs1 : ∀ s ∈ bb, s.size ≤ maxLen) (ha0 : SAt w a0 aa) (ha1 : SAt w a1 bb)
    (hn0 : a0 = none → aa = [] ∧ c0 = 0) (hn1 : a1 = none → bb = [] ∧ c1 = 0) :
    Calls Try.prog 4 #[.slice a0 aa.length c0, .slice a1 bb.length c1] w (RetT w) := by
  have HBY := hid (bytes2_14 a0 a1 c0 c1 aa bb w hm0 hm1 hs0 hs1 ha0 ha1)
  have H0 := hid ha0
  have H1 := hid ha1
  have HS0 := hid hs0
  have HS1 := hid hs1
  have HN0 := hid hn0
  have HN1 := hid hn1
  unfold maxLen at hm0 hm1
  clear ha0 ha1 hs0 hs1 hn0 hn1
  go_enter Try.func4, Try.ntmps4
  go_wp2_with (fail)
  refine HBY.out.mono ?_
  rintro e w' ⟨b, rfl, rfl⟩
  clear HBY
  cases b with
  | false =>
    go_wp2_with (fail)
    go_ret
    exact ⟨rfl, Below.refl _ _⟩
  | true =>
    by_cases h4 : aa.length ≤ 1024 ∧ bb.length ≤ 1024
    · obtain ⟨l0, l1⟩ := h4
      go_wp2_with (fail)
      refine (addBytes_any a0 c0 aa w (by omega) HS0.out H0.out).mono ?_
      rintro e w' ⟨t1, t10, t11, rfl, rfl⟩
      go_wp2_with (fail)
      refine (addBytes_any a1 c1 bb w (by omega) HS1.out H1.out).mono ?_
      rintro e w' ⟨t2, t20, t21, rfl, rfl⟩
      by_cases hbig : 1048576 < t1 + t2
      · go_wp2_with (fail)
        go_ret
        exact ⟨rfl, Below.refl _ _⟩
      · go_wp2_with (fail)
        refine (clone_any a0 c0 aa w HN0.out (by omega) H0.out).mono ?_
        rintro e w1 ⟨v1, rfl, ho1, hb1⟩
        have HO1 := hid ho1
        have HB1 := hid hb1
        have z1 := hb1.size
        obtain ⟨p1, d1, rfl⟩ := own_form ho1
        clear ho1 hb1
        go_wp2_with (fail)
        refine (clone_any a1 c1 bb w1 HN1.out (by omega) (H1.out.below HB1.out)).mono ?_
        rintro e w2 ⟨v2, rfl, ho2, hb2⟩
        have HO2 := hid ho2
        have HB2 := hid hb2
        have z2 := hb2.size
        obtain ⟨p2, d2, rfl⟩ := own_form ho2
        clear ho2 hb2
        obtain ⟨pa, cpa, hv1, _, qa1, qa2, sa⟩ := owns_val (ownsRow_below HO1.out HB2.out (Nat.le_refl _))
        obtain ⟨pb, cpb, hv2, _, qb1, qb2, sb⟩ := owns_val HO2.out
        simp only [Value.slice.injEq, true_and] at hv1 hv2
        obtain ⟨rfl, rfl⟩ := hv1
        obtain ⟨rfl, rfl⟩ := hv2
        have SA := hid sa
        have SB := hid sb
        have HW2 := hid (show Below w.heap.size w w2 from HB1.out.trans (HB2.out.mono (by omega)))
        have HZS := hid (zzScript_any p1 p2 d1 d2 aa bb w2 (by omega) (by omega) qa1 qb1 qa2 qb2 sa sb)
        have zw : w.heap.size ≤ w2.heap.size := by omega
        clear sa sb HO1 HO2 HB1 HB2 H0 H1 HN0 HN1 HS0 HS1 qa1 qa2 qb1 qb2 z1 z2
        go_wp2_with (fail)
        refine HZS.out.mono ?_
        rintro e w3 ⟨gk, gl, rfl, h1, h2, h3, h4, hb3⟩
        have lgk := h3.lt
        have lgl := h4.lt
        have HK3 := hid h3
        have HL3 := hid h4
        have HB3 := hid hb3
        have z3 := hb3.size
        have HCM := hid (common_any p1 p2 d1 d2 aa bb w3 (by omega) (by omega) (SA.out.below hb3) (SB.out.below hb3))
        have HLC := hid (fun n => lcs_any p1 p2 d1 d2 aa bb (w3.drewN n) (by omega) (by omega) (SA.out.below (below_drewN hb3 n)) (SB.out.below (below_drewN hb3 n)))
        have hlen := script_len aa bb
        have hp1 := My.pre_le aa bb
        have hs1 := My.suf_le aa bb (pre aa bb)
        rw [lay_length]
        have hpl := script_ends_len aa bb
        have HFI := hid (script_first aa bb)
        have HLA := hid (script_last aa bb)
        have HBK := hid (My.norm_script_block aa bb)
        have HAR := hid (My.norm_noAR (scriptOps aa bb) 0 0)
        have HPL := hid (My.norm_script_play aa bb)
        have HCG := hid (script_chg aa bb)
        clear h1 h2 h3 h4 hb3 HZS
        obtain ⟨p, hp⟩ : ∃ p, pre aa bb = p := ⟨_, rfl⟩
        rw [hp] at hp1 hs1 hpl HFI HLA HBK HCM
        obtain ⟨s, hs⟩ : ∃ s, suf aa bb p = s := ⟨_, rfl⟩
        rw [hs] at hs1 hpl HLA HBK HCM
        obtain ⟨sc, hsc⟩ : ∃ sc, norm (scriptOps aa bb) 0 0 = sc := ⟨_, rfl⟩
        rw [hsc] at hlen hpl HFI HLA HBK HK3 HL3 HAR HPL HCG ⊢
        obtain ⟨M, hM⟩ : ∃ M, sc.length = M := ⟨_, rfl⟩
        have HM := hid hM
        rw [hM] at hlen hpl HLA ⊢
        clear hM hsc hs hp
        obtain ⟨hp1, hp2⟩ := hp1
        obtain ⟨hs1, hs2⟩ := hs1
        go_wp2_with (fail)
        refine HCM.out.mono ?_
        rintro e w' ⟨rfl, n3, rfl⟩
        go_wp2_with (fail)
        refine (HLC.out n3).mono ?_
        rintro e w4 ⟨rfl, hb4⟩
        have hb5 : Below w3.heap.size w3 w4 := (below_drewN (Below.refl _ w3) n3).trans hb4
        have HW4 := hid (HW2.out.trans ((HB3.out.mono zw).trans (hb5.mono (by omega))))
        have HK4 := hid (HK3.out.below hb5 lgk)
        have HL4 := hid (HL3.out.below hb5 lgl)
        have SA4 := hid (SA.out.below (HB3.out.trans (hb5.mono z3)))
        have SB4 := hid (SB.out.below (HB3.out.trans (hb5.mono z3)))
        clear hb4 hb5 HLC HCM HK3 HL3 SA SB HB3 HW2
        have hDq := My.D_eq aa bb
        have hL1 := My.L_le_i aa bb aa.length bb.length
        have hL2 := My.L_le_j aa bb aa.length bb.length
        obtain ⟨lc, hlc⟩ : ∃ lc, L aa bb aa.length bb.length = lc := ⟨_, rfl⟩
        rw [hlc] at hL1 hL2 hDq ⊢
        clear hlc
        by_cases hD : D aa bb ≤ 1000
        · have hd1 : ¬ 1000 < (aa.length : Int) + bb.length - 2 * lc := by omega
          have HWK := hid (walks_any gk M gl M p1 p2 d1 d2 aa bb sc w4 (by omega) (by omega) (by rw [HM.out]; omega) HPL.out (KAt_of (EAt_of HK4.out HL4.out)) (LAt_of (EAt_of HK4.out HL4.out)) SA4.out SB4.out M HM.out)
          have HCH := hid (fun n => changes_any gk M sc (w4.drewN n) (by rw [HM.out]; omega) (KAt_of (EAt_of HK4.out HL4.out)))
          have HCN := hid (show ((sc.countP (fun o => o != 32) : Nat) : Int) = (aa.length : Int) + bb.length - 2 * lc by
            have h1 := HCG.out hD
            unfold chg at h1
            omega)
          have HKA := hid (KAt_of (EAt_of HK4.out HL4.out))
          rw [HM.out] at HCH
          clear hDq hD HBK HCG HPL SA4 SB4
          go_wp2_with (fail)
          refine HWK.out.mono ?_
          rintro e w5 ⟨rfl, n5, rfl⟩
          go_wp2_with (fail)
          refine (HCH.out n5).mono ?_
          rintro e w5 ⟨rfl, rfl⟩
          rw [HCN.out]
          have hfin : ((aa.length : Int) + bb.length - 2 * lc != (aa.length : Int) + bb.length - 2 * lc) = false := by simp
          have hps : ¬ (M : Int) < (p : Int) + s := by omega
          have HW5 := hid (below_drewN HW4.out n5)
          have HKB := hid (show KAt (w4.drewN n5) gk sc from HKA.out)
          clear HWK HCH HCN HK4 HL4 HKA HW4
          obtain ⟨w5, hw5⟩ : ∃ w5, w4.drewN n5 = w5 := ⟨_, rfl⟩
          rw [hw5] at HW5 HKB ⊢
          clear hw5
          go_wp2_with (fail)
          go_loopg [10] p (fun gm iv wr => ∃ i : Nat, gm = p - i ∧ i ≤ p ∧ iv = .int .i64 i ∧ w5 = wr)
          case atStart => exact ⟨0, rfl, by omega, rfl, rfl⟩
          case round =>
            obtain ⟨i, rfl, hi, rfl, rfl⟩ := hrel
            by_cases hip : i < p
            · have c0 := HKB.out i 32 (HFI.out i hip)
              have k0 : ((32 : UInt8).toNat : Int) = 32 := rfl
              rw [k0] at c0
              have hip1 : (i : Int) < p := by omega
              have hiM : (i : Int) < M := by omega
              clear k0
              go_wp2_with (fail)
              go_roundg (p - (i + 1))
              case measure => omega
              case rel => exact ⟨i + 1, rfl, by omega, by go_num, rfl⟩
            · have hip1 : ¬ (i : Int) < p := by omega
              go_wp2_with (fail)
              go_loopg [11] s (fun gm iv wr => ∃ j : Nat, gm = M - j ∧ M - s ≤ j ∧ j ≤ M ∧ iv = .int .i64 j ∧ w5 = wr)
              case atStart => exact ⟨M - s, by omega, by omega, by omega, by go_num, rfl⟩
              case round =>
                obtain ⟨j, rfl, hj0, hj, rfl, rfl⟩ := hrel
                by_cases hjM : j < M
                · have c0 := HKB.out j 32 (HLA.out j hj0 hjM)
                  have k0 : ((32 : UInt8).toNat : Int) = 32 := rfl
                  rw [k0] at c0
                  have hjM1 : (j : Int) < M := by omega
                  clear k0
                  go_wp2_with (fail)
                  go_roundg (M - (j + 1))
                  case measure => omega
                  case rel => exact ⟨j + 1, rfl, by omega, by omega, by go_num, rfl⟩
                · have hjM1 : ¬ (j : Int) < M := by omega
                  go_wp2_with (fail)
                  go_loopg [12] M (fun gm iv wr => ∃ u : Nat, gm = M - u ∧ u ≤ M ∧ iv = .int .i64 u ∧ w5 = wr)
                  case atStart => exact ⟨0, rfl, by omega, rfl, rfl⟩
                  case round =>
                    obtain ⟨u, rfl, hu, rfl, rfl⟩ := hrel
                    by_cases huM : u + 1 < M
                    · obtain ⟨o1, ho1⟩ : ∃ o, sc[u]? = some o := ⟨_, List.getElem?_eq_getElem (show u < sc.length by rw [HM.out]; omega)⟩
                      obtain ⟨o2, ho2⟩ : ∃ o, sc[u + 1]? = some o := ⟨_, List.getElem?_eq_getElem (show u + 1 < sc.length by rw [HM.out]; omega)⟩
                      have c1 := HKB.out u o1 ho1
                      have c2 := HKB.out (u + 1) o2 ho2
                      have hno : o1 = 43 → o2 ≠ 45 := fun h1 h2 => HAR.out u (by rw [ho1, h1]) (by rw [ho2, h2])
                      have q43 := u8_eq o1 43
                      have q45 := u8_eq o2 45
                      have huM1 : (u : Int) + 1 < M := by omega
                      have huM2 : (u : Int) < M := by omega
                      clear ho1 ho2
                      by_cases h43 : o1 = 43
                      · have k1 : (((o1.toNat : Nat) : Int) == 43) = true := q43.trans (decide_eq_true h43)
                        have k2 : (((o2.toNat : Nat) : Int) == 45) = false := q45.trans (decide_eq_false (hno h43))
                        clear q43 q45 hno h43
                        go_wp2_with (fail)
                        go_roundg (M - (u + 1))
                        case measure => omega
                        case rel => exact ⟨u + 1, rfl, by omega, by go_num, rfl⟩
                      · have k1 : (((o1.toNat : Nat) : Int) == 43) = false := q43.trans (decide_eq_false h43)
                        clear q43 q45 hno h43
                        go_wp2_with (fail)
                        go_roundg (M - (u + 1))
                        case measure => omega
                        case rel => exact ⟨u + 1, rfl, by omega, by go_num, rfl⟩
                    · have huM1 : ¬ (u : Int) + 1 < M := by omega
                      go_wp2_with (fail)
                      go_ret
                      exact ⟨rfl, HW5.out⟩
        · have hd1 : 1000 < (aa.length : Int) + bb.length - 2 * lc := by omega
          have hbk := HBK.out hD
          obtain ⟨y, hy⟩ : ∃ y, aa.length - s - p = y := ⟨_, rfl⟩
          obtain ⟨z, hz⟩ : ∃ z, bb.length - s - p = z := ⟨_, rfl⟩
          rw [hy, hz] at hbk
          have HBLK := hid (block_any gk M gl M p1 p2 d1 d2 p s y z M aa bb w4 (by omega) (by omega) (by omega) (by omega) (by rw [← HM.out, hbk]; simp; omega) (by rw [← eblk_lay, ← hbk]; exact EAt_of HK4.out HL4.out) SA4.out SB4.out)
          clear hDq hbk hy hz HBK
          go_wp2_with (fail)
          refine HBLK.out.mono ?_
          rintro e w5 ⟨rfl, n5, rfl⟩
          go_wp2_with (fail)
          go_ret
          exact ⟨rfl, below_drewN HW4.out n5⟩
    · have hnl : ¬ aa.length ≤ 1024 ∨ (aa.length ≤ 1024 ∧ ¬ bb.length ≤ 1024) := by omega
      clear h4
      rcases hnl with h | ⟨h, h'⟩
      all_goals
        go_wp2_with (fail)
        go_ret
        exact ⟨rfl, Below.refl _ _⟩
end Go.Proofs.Qxb6603052a
