/-
  THE WALK OF THE LAW FnLinesIsMinimalDiff.
-/
import Derived.Test.Qxb6602717aScr
import Derived.Test.Qxb6602717aWB
import Derived.Test.Qxb6602717aW7
import Derived.Test.Qxb6602717aW8
namespace Go.Proofs.Qxb6602717a
open Go.RowKit
open My (L D eqAt play stepO linesOf norm number scriptOps pre suf)

theorem play_cnt (aa bb : List ByteArray) (l : List UInt8) (i j : Nat) (q : Nat × Nat) (h : play aa bb l (i, j) = some q) : q = (i + cntA l, j + cntB l) := by
  induction l generalizing i j with
  | nil => simp only [play, Option.some.injEq] at h; subst h; rfl
  | cons o l ih =>
    rw [play] at h
    cases hs : stepO aa bb o (i, j) with
    | none => rw [hs] at h; cases h
    | some r =>
      rw [hs] at h
      have h2 : play aa bb l r = some q := h
      rcases My.stepO_inv _ _ _ _ _ _ hs with ⟨rfl, _, rfl⟩ | ⟨rfl, _, rfl⟩ | ⟨rfl, _, rfl⟩
      · rw [ih _ _ h2]; simp [cntA, cntB]; omega
      · rw [ih _ _ h2]; simp [cntA, cntB]; omega
      · rw [ih _ _ h2]; simp [cntA, cntB]; omega

set_option maxHeartbeats 8000000 in
set_option maxRecDepth 100000 in
theorem minimalDiff_any (a0 a1 : Option Addr) (c0 c1 : Nat) (aa bb : List ByteArray) (w : World) (hm0 : aa.length ≤ maxLen) (hm1 : bb.length ≤ maxLen)
    (hs0 : ∀ s ∈ aa, s.size ≤ maxLen) (hs1 : ∀ s ∈ bb, s.size ≤ maxLen) (ha0 : SAt w a0 aa) (ha1 : SAt w a1 bb)
    (hn0 : a0 = none → aa = [] ∧ c0 = 0) (hn1 : a1 = none → bb = [] ∧ c1 = 0) :
    Calls Try.prog 5 #[.slice a0 aa.length c0, .slice a1 bb.length c1] w (RetT w) := by
  have HBY := hid (bytes2_17 a0 a1 c0 c1 aa bb w hm0 hm1 hs0 hs1 ha0 ha1)
  have H0 := hid ha0
  have H1 := hid ha1
  have HS0 := hid hs0
  have HS1 := hid hs1
  have HN0 := hid hn0
  have HN1 := hid hn1
  unfold maxLen at hm0 hm1
  clear ha0 ha1 hs0 hs1 hn0 hn1
  go_enter Try.func5, Try.ntmps5
  go_wp2_with (fail)
  refine HBY.out.mono ?_
  rintro e w' ⟨b, rfl, rfl⟩
  clear HBY
  cases b with
  | false =>
    go_wp2_with (fail)
    go_ret
    exact ⟨rfl, Below.refl _ _⟩
  | true =>
    by_cases h4 : aa.length ≤ 4096 ∧ bb.length ≤ 4096
    · obtain ⟨l0, l1⟩ := h4
      go_wp2_with (fail)
      refine (addBytes_any 0 a0 c0 aa w (by omega) (by omega) (by omega) HS0.out H0.out).mono ?_
      rintro e w' ⟨t1, b1, t10, t11, rfl, rfl⟩
      cases b1 with
      | false =>
        go_wp2_with (fail)
        go_ret
        exact ⟨rfl, Below.refl _ _⟩
      | true =>
        go_wp2_with (fail)
        refine (addBytes_any t1 a1 c1 bb w t10 t11 (by omega) HS1.out H1.out).mono ?_
        rintro e w' ⟨t2, b2, t20, t21, rfl, rfl⟩
        cases b2 with
        | false =>
          go_wp2_with (fail)
          go_ret
          exact ⟨rfl, Below.refl _ _⟩
        | true =>
          go_wp2_with (fail)
          refine (clone_any a0 c0 aa w HN0.out (by omega) H0.out).mono ?_
          rintro e w1 ⟨v1, rfl, ho1, hb1⟩
          have HO1 := hid ho1
          have HB1 := hid hb1
          have z1 := hb1.size
          obtain ⟨p1, d1, rfl⟩ := own_form ho1
          clear ho1 hb1
          go_wp2_with (fail)
          refine (clone_any a1 c1 bb w1 HN1.out (by omega) (H1.out.below HB1.out)).mono ?_
          rintro e w2 ⟨v2, rfl, ho2, hb2⟩
          have HO2 := hid ho2
          have HB2 := hid hb2
          have z2 := hb2.size
          obtain ⟨p2, d2, rfl⟩ := own_form ho2
          clear ho2 hb2
          obtain ⟨pa, cpa, hv1, _, qa1, qa2, sa⟩ := owns_val (ownsRow_below HO1.out HB2.out (Nat.le_refl _))
          obtain ⟨pb, cpb, hv2, _, qb1, qb2, sb⟩ := owns_val HO2.out
          simp only [Value.slice.injEq, true_and] at hv1 hv2
          obtain ⟨rfl, rfl⟩ := hv1
          obtain ⟨rfl, rfl⟩ := hv2
          have SA := hid sa
          have SB := hid sb
          have HW2 := hid (show Below w.heap.size w w2 from HB1.out.trans (HB2.out.mono (by omega)))
          have HLN := hid (lines_any p1 p2 d1 d2 aa bb w2 (by omega) (by omega) qa1 qb1 qa2 qb2 sa sb)
          have hlb := lines_bound aa bb
          have HLB := hid hlb.2
          obtain ⟨hlb1, _⟩ := hlb
          clear sa sb HO1 HO2 HB1 HB2 H0 H1 HN0 HN1 HS0 HS1 qa1 qa2 qb1 qb2
          have zw : w.heap.size ≤ w2.heap.size := by omega
          clear z1 z2
          go_wp2_with (fail)
          refine HLN.out.mono ?_
          obtain ⟨no, hno⟩ : ∃ no, no = norm (scriptOps aa bb) 0 0 := ⟨_, rfl⟩
          have eL : linesOf aa bb = number no 0 0 := by rw [hno]; rfl
          rw [eL] at HLB hlb1 ⊢
          rintro e w3 ⟨g, rfl, hg, hk3, hb3⟩
          rw [My.number_length] at hlb1 ⊢
          obtain ⟨M, hM⟩ : ∃ M, no.length = M := ⟨_, rfl⟩
          rw [hM] at hlb1 ⊢
          have HNO := hid hno
          have HM := hid hM
          have HK3 := hid hk3
          have SA3 := hid (SA.out.below hb3)
          have SB3 := hid (SB.out.below hb3)
          have HW3 := hid (show Below w.heap.size w w3 from HW2.out.trans (hb3.mono zw))
          have z3 := hb3.size
          have HPL := hid (show play aa bb no (0, 0) = some (aa.length, bb.length) by rw [hno]; exact My.norm_script_play aa bb)
          have HAR := hid (show My.NoAR no by rw [hno]; exact My.norm_noAR _ 0 0)
          have HCT := hid (show D aa bb ≤ 1000 → no.count 32 = L aa bb aa.length bb.length by intro h; rw [hno, My.norm_count]; exact My.script_count aa bb h)
          have HBK := hid (fun h => hno.trans (My.norm_script_block aa bb h))
          clear hno hM hk3 hb3 HLN SA SB eL HW2 hg
          go_wp2_with (fail)
          go_loopg [10, 11, 12, 13] M (fun gm iv jv kv tv wr => ∃ t i j k : Nat, gm = M - t ∧ t ≤ M ∧ play aa bb (no.take t) (0, 0) = some (i, j) ∧ k = (no.take t).count 32 ∧ iv = .int .i64 i ∧ jv = .int .i64 j ∧ kv = .int .i64 k ∧ tv = .int .i64 t ∧ i ≤ aa.length ∧ j ≤ bb.length ∧ k ≤ t ∧ Below w3.heap.size w3 wr)
          case atStart => exact ⟨0, 0, 0, 0, rfl, by omega, rfl, rfl, rfl, rfl, rfl, rfl, by omega, by omega, by omega, Below.refl _ _⟩
          case round =>
            obtain ⟨t, i, j, k, rfl, ht, hpl, hk, rfl, rfl, rfl, rfl, hi, hj, hkt, hB⟩ := hrel
            have HPT := hid hpl
            have HK := hid hk
            have HB := hid hB
            by_cases hlt : t < M
            · have htl : t < no.length := by rw [HM.out]; exact hlt
              obtain ⟨o, ho⟩ : ∃ o, no[t]? = some o := ⟨no[t], List.getElem?_eq_getElem htl⟩
              obtain ⟨r, hr1, hr2⟩ := My.play_at aa bb no _ _ HPL.out t o ho (i, j) hpl
              have hij := play_cnt aa bb _ _ _ _ hpl
              simp only [Nat.zero_add, Prod.mk.injEq] at hij
              have hnt : (number no 0 0)[t]? = some (o, i, j) := by rw [number_get, ho, hij.1, hij.2]; simp
              obtain ⟨x0, x1, x2⟩ := (HK3.out.below hB HK3.out.lt).line t _ hnt
              simp only at x0 x1 x2
              have hcnt : (no.take (t + 1)).count 32 = k + if o = 32 then 1 else 0 := by
                rw [List.take_add_one, ho, List.count_append, HK.out]
                by_cases e : o = 32
                · subst e; rfl
                · simp [e]
              have HCN := hid hcnt
              have HR2 := hid hr2
              have HO := hid ho
              have hlt1 : (t : Int) < M := by omega
              have e1 : ((i : Int) != (i : Int)) = false := by simp
              have e2 : ((j : Int) != (j : Int)) = false := by simp
              clear hcnt hr2 hpl hk hnt hij htl ho
              rcases My.stepO_inv aa bb o i j r hr1 with ⟨h1, h2, h3⟩ | ⟨h1, h2, h3⟩ | ⟨h1, h2, h3⟩
              · have hlt2 := My.eqAt_lt h2
                have k1 : ((ob o).toList == [32]) = true := by rw [ob_eq]; exact decide_eq_true h1
                obtain ⟨ba, oa, rfl, hca⟩ := SA3.out i hlt2.1
                obtain ⟨bb', ob', rfl, hcb⟩ := SB3.out j hlt2.2
                have hca' : ∀ ob'', (wr.alloc ob'').cell? ⟨ba, oa + i, none⟩ = some (.string aa[i]) := fun ob'' => by
                  rw [(hB.alloc hB.size ob'').cell (p := ⟨ba, oa + i, none⟩) (World.block_lt_of_cell? _ _ hca)]; exact hca
                have hcb' : ∀ ob'', (wr.alloc ob'').cell? ⟨bb', ob' + j, none⟩ = some (.string bb[j]) := fun ob'' => by
                  rw [(hB.alloc hB.size ob'').cell (p := ⟨bb', ob' + j, none⟩) (World.block_lt_of_cell? _ _ hcb)]; exact hcb
                have heq : (aa[i].toList == bb[j].toList) = true := by
                  rw [My.eqAt_iff hlt2.1 hlt2.2] at h2; rw [bytes_eq]; exact h2
                have y1 : ¬ (aa.length : Int) ≤ i := by omega
                have y2 : ¬ (bb.length : Int) ≤ j := by omega
                have y1' : decide ((aa.length : Int) ≤ i) = false := decide_eq_false y1
                have y2' : decide ((bb.length : Int) ≤ j) = false := decide_eq_false y2
                have H3 := hid h3
                have H1 := hid h1
                obtain ⟨z1, z2⟩ := hlt2
                clear hr1 h1 h2 h3 hB hca hcb
                go_wp2_with (fail)
                go_quiet (fail)
                go_wp2_with (fail)
                go_roundg (M - (t + 1))
                case measure => omega
                case rel => exact ⟨t + 1, i + 1, j + 1, k + 1, rfl, by omega, by rw [HR2.out, H3.out], by rw [HCN.out, if_pos H1.out], by go_num, by go_num, by go_num, by go_num, by omega, by omega, by omega, below_drewN (HB.out.alloc HB.out.size _) _⟩
              · have k1 : ((ob o).toList == [32]) = false := by rw [ob_eq]; exact decide_eq_false (by rw [h1]; decide)
                have k2 : ((ob o).toList == [45]) = true := by rw [ob_eq]; exact decide_eq_true h1
                have y1 : ¬ (aa.length : Int) ≤ i := by omega
                have H3 := hid h3
                have H1 := hid h1
                clear hr1 h1 h3 hB
                go_wp2_with (fail)
                go_roundg (M - (t + 1))
                case measure => omega
                case rel => exact ⟨t + 1, i + 1, j, k, rfl, by omega, by rw [HR2.out, H3.out], by rw [HCN.out, if_neg (by rw [H1.out]; decide)]; rfl, by go_num, rfl, rfl, by go_num, by omega, by omega, by omega, HB.out.alloc HB.out.size _⟩
              · have k1 : ((ob o).toList == [32]) = false := by rw [ob_eq]; exact decide_eq_false (by rw [h1]; decide)
                have k2 : ((ob o).toList == [45]) = false := by rw [ob_eq]; exact decide_eq_false (by rw [h1]; decide)
                have k3 : ((ob o).toList == [43]) = true := by rw [ob_eq]; exact decide_eq_true h1
                have y1 : ¬ (bb.length : Int) ≤ j := by omega
                have H3 := hid h3
                have H1 := hid h1
                by_cases hl2 : t + 1 < M
                · have htl2 : t + 1 < no.length := by rw [HM.out]; exact hl2
                  obtain ⟨o2, ho2⟩ : ∃ o, no[t + 1]? = some o := ⟨no[t + 1], List.getElem?_eq_getElem htl2⟩
                  have ho45 : o2 ≠ 45 := by
                    intro e
                    exact HAR.out t (by rw [HO.out, h1]) (by rw [ho2, e])
                  have hnt2 : (number no 0 0)[t + 1]? = some (o2, cntA (no.take (t + 1)), cntB (no.take (t + 1))) := by rw [number_get, ho2]; simp
                  have u0 := fun ob'' => (((HK3.out.below hB HK3.out.lt).alloc ob'').line (t + 1) _ hnt2).1
                  simp only at u0
                  have k4 : ((ob o2).toList == [45]) = false := by rw [ob_eq]; exact decide_eq_false ho45
                  have hl3 : (t : Int) + 1 < M := by omega
                  clear hr1 h1 h3 hB ho2 hnt2 htl2
                  go_wp2_with (fail)
                  go_roundg (M - (t + 1))
                  case measure => omega
                  case rel => exact ⟨t + 1, i, j + 1, k, rfl, by omega, by rw [HR2.out, H3.out], by rw [HCN.out, if_neg (by rw [H1.out]; decide)]; rfl, rfl, by go_num, rfl, by go_num, by omega, by omega, by omega, HB.out.alloc HB.out.size _⟩
                · have hl3 : ¬ (t : Int) + 1 < M := by omega
                  clear hr1 h1 h3 hB
                  go_wp2_with (fail)
                  go_roundg (M - (t + 1))
                  case measure => omega
                  case rel => exact ⟨t + 1, i, j + 1, k, rfl, by omega, by rw [HR2.out, H3.out], by rw [HCN.out, if_neg (by rw [H1.out]; decide)]; rfl, rfl, by go_num, rfl, by go_num, by omega, by omega, by omega, HB.out.alloc HB.out.size _⟩
            · have htm : t = no.length := by rw [HM.out]; omega
              rw [htm, List.take_length, HPL.out] at hpl
              simp only [Option.some.injEq, Prod.mk.injEq] at hpl
              obtain ⟨rfl, rfl⟩ := hpl
              rw [htm, List.take_length] at hk
              have HKK := hid hk
              have hlt1 : ¬ (t : Int) < M := by omega
              have e1 : ((aa.length : Int) != (aa.length : Int)) = false := by simp
              have e2 : ((bb.length : Int) != (bb.length : Int)) = false := by simp
              have z4 := hB.size
              have HLC := hid (lcs_any p1 p2 d1 d2 aa bb wr (by omega) (by omega) (SA3.out.below hB) (SB3.out.below hB))
              clear hk htm hB HPT HK
              go_wp2_with (fail)
              refine HLC.out.mono ?_
              rintro e w4 ⟨rfl, hb4⟩
              clear HLC
              have z5 := hb4.size
              have HB4 := hid (show Below w3.heap.size w3 w4 from HB.out.trans (hb4.mono (by omega)))
              have hDq := My.D_eq aa bb
              have hL1 := My.L_le_i aa bb aa.length bb.length
              have hL2 := My.L_le_j aa bb aa.length bb.length
              have HCT2 := hid HCT.out
              obtain ⟨l, hl⟩ : ∃ l, L aa bb aa.length bb.length = l := ⟨_, rfl⟩
              rw [hl] at hL1 hL2 hDq HCT2 ⊢
              clear hb4 hl HCT HB
              by_cases hD : D aa bb ≤ 1000
              · have hd1 : (aa.length : Int) + bb.length - 2 * l ≤ 1000 := by omega
                have hkl : k = l := by rw [HKK.out]; exact HCT2.out hD
                have hkl2 : ((k : Int) == (l : Int)) = true := by simp [hkl]
                clear hkl hDq
                go_wp2_with (fail)
                go_ret
                exact ⟨rfl, HW3.out.trans (HB4.out.mono (by omega))⟩
              · have hd1 : ¬ (aa.length : Int) + bb.length - 2 * l ≤ 1000 := by omega
                have hbk := HBK.out hD
                clear hDq HKK HCT2
                have HBK2 := hid hbk
                have SA4 := hid (SA3.out.below HB4.out)
                have SB4 := hid (SB3.out.below HB4.out)
                have HK4 := hid (HK3.out.below HB4.out HK3.out.lt)
                have HW4 := hid (HW3.out.trans (HB4.out.mono (by omega)))
                clear hbk HBK SA3 SB3 HK3 HW3 HB4 HPL HAR HNO
                clear z3 z4 z5
                go_wp2_with (fail)
                go_loopg [16] aa.length (fun gm pv wr => ∃ p : Nat, gm = aa.length - p ∧ pv = .int .i64 p ∧ p ≤ aa.length ∧ p ≤ bb.length ∧ (∀ i, i < p → eqAt aa bb i i = true) ∧ ∃ n, wr = w4.drewN n)
                case atStart => exact ⟨0, rfl, rfl, by omega, by omega, fun i hi => by omega, 0, rfl⟩
                case round =>
                  obtain ⟨p, rfl, rfl, hp1, hp2, hpe, n, rfl⟩ := hrel
                  have HPE := hid hpe
                  clear hpe
                  generalize hS : eqAt aa bb p p = S
                  have HS := hid hS
                  clear hS
                  go_wp2
                  go_cut [175] (fun t wc => t = .bool S ∧ ∃ n, wc = w4.drewN n)
                  case first =>
                    by_cases gx : p < aa.length
                    · by_cases gy : p < bb.length
                      · obtain ⟨ba, oa, rfl, hca'⟩ := SA4.out p gx
                        obtain ⟨bb', ob, rfl, hcb'⟩ := SB4.out p gy
                        have gx' : (p : Int) < aa.length := by omega
                        have gy' : (p : Int) < bb.length := by omega
                        have HE := hid (show S = (aa[p].toList == bb[p].toList) by rw [← HS.out, eqAt_bytes gx gy])
                        go_quiet (fail)
                        go_wp2
                        go_meet
                        exact ⟨by rw [HE.out], n + nq, by simp⟩
                      · have HE := hid (show S = false by rw [← HS.out]; apply Bool.eq_false_iff.2; intro hc; have := My.eqAt_lt hc; omega)
                        have gx' : (p : Int) < aa.length := by omega
                        have gy' : decide ((p : Int) < bb.length) = false := by simpa using gy
                        go_quiet (fail)
                        go_wp2
                        go_meet
                        exact ⟨by rw [HE.out], n + nq, by simp⟩
                    · have HE := hid (show S = false by rw [← HS.out]; apply Bool.eq_false_iff.2; intro hc; have := My.eqAt_lt hc; omega)
                      have gx' : decide ((p : Int) < aa.length) = false := by simpa using gx
                      go_quiet (fail)
                      go_wp2
                      go_meet
                      exact ⟨by rw [HE.out], n + nq, by simp⟩
                  case rest =>
                    obtain ⟨rfl, nq, rfl⟩ := hcut
                    cases hSS : S with
                    | true =>
                      have hss := HS.out.trans hSS
                      have hlt := My.eqAt_lt hss
                      have HPE2 := hid (show ∀ i, i < p + 1 → eqAt aa bb i i = true from fun i hi => by
                        by_cases e : i < p
                        · exact HPE.out i e
                        · obtain rfl : i = p := by omega
                          exact hss)
                      clear hss hSS HPE HS
                      go_wp2
                      go_roundg (aa.length - (p + 1))
                      case measure => omega
                      case rel => exact ⟨p + 1, rfl, by go_num, by omega, by omega, HPE2.out, _, rfl⟩
                    | false =>
                      have HP := hid (My.pre_unique aa bb p HPE.out (HS.out.trans hSS))
                      clear hSS HS HPE
                      go_wp2
                      go_loopg [17] aa.length (fun gm sv wr => ∃ s : Nat, gm = aa.length - s ∧ sv = .int .i64 s ∧ s ≤ aa.length - p ∧ s ≤ bb.length - p ∧ (∀ i, i < s → i < aa.length - p ∧ i < bb.length - p ∧ eqAt aa bb (aa.length - 1 - i) (bb.length - 1 - i) = true) ∧ ∃ n, wr = w4.drewN n)
                      case atStart => exact ⟨0, rfl, rfl, by omega, by omega, fun i hi => by omega, _, rfl⟩
                      case round =>
                        obtain ⟨s, rfl, rfl, hs1, hs2, hse, n, rfl⟩ := hrel
                        have HSE := hid hse
                        clear hse
                        generalize hS : decide (s < aa.length - p ∧ s < bb.length - p ∧ eqAt aa bb (aa.length - 1 - s) (bb.length - 1 - s) = true) = S
                        have HS := hid hS
                        clear hS
                        go_wp2
                        go_cut [206] (fun t wc => t = .bool S ∧ ∃ n, wc = w4.drewN n)
                        case first =>
                          by_cases gx : s < aa.length - p
                          · by_cases gy : s < bb.length - p
                            · obtain ⟨ba, oa, rfl, hca'⟩ := SA4.out (aa.length - 1 - s) (by omega)
                              obtain ⟨bb', ob, rfl, hcb'⟩ := SB4.out (bb.length - 1 - s) (by omega)
                              have gx' : (s : Int) < (aa.length : Int) - p := by omega
                              have gy' : (s : Int) < (bb.length : Int) - p := by omega
                              have HE := hid (show S = (aa[aa.length - 1 - s].toList == bb[bb.length - 1 - s].toList) by
                                rw [← HS.out, ← eqAt_bytes (by omega) (by omega)]
                                simp [gx, gy])
                              go_quiet (fail)
                              go_wp2
                              go_meet
                              exact ⟨by rw [HE.out], n + nq, by simp⟩
                            · have HE := hid (show S = false by rw [← HS.out]; exact decide_eq_false (by omega))
                              have gx' : (s : Int) < (aa.length : Int) - p := by omega
                              have gy' : decide ((s : Int) < (bb.length : Int) - p) = false := decide_eq_false (by omega)
                              go_quiet (fail)
                              go_wp2
                              go_meet
                              exact ⟨by rw [HE.out], n + nq, by simp⟩
                          · have HE := hid (show S = false by rw [← HS.out]; exact decide_eq_false (by omega))
                            have gx' : decide ((s : Int) < (aa.length : Int) - p) = false := decide_eq_false (by omega)
                            go_quiet (fail)
                            go_wp2
                            go_meet
                            exact ⟨by rw [HE.out], n + nq, by simp⟩
                        case rest =>
                          obtain ⟨rfl, nq, rfl⟩ := hcut
                          cases hSS : S with
                          | true =>
                            have hss := of_decide_eq_true (HS.out.trans hSS)
                            have HSE2 := hid (show ∀ i, i < s + 1 → i < aa.length - p ∧ i < bb.length - p ∧ eqAt aa bb (aa.length - 1 - i) (bb.length - 1 - i) = true from fun i hi => by
                              by_cases e : i < s
                              · exact HSE.out i e
                              · obtain rfl : i = s := by omega
                                exact hss)
                            obtain ⟨hss1, hss2, _⟩ := hss
                            clear hSS HSE HS
                            go_wp2
                            go_roundg (aa.length - (s + 1))
                            case measure => omega
                            case rel => exact ⟨s + 1, rfl, by go_num, by omega, by omega, HSE2.out, _, rfl⟩
                          | false =>
                            have HSU := hid (My.suf_unique aa bb p s HSE.out (of_decide_eq_false (HS.out.trans hSS)))
                            clear hSS HS HSE
                            have hbk := HBK2.out
                            rw [HP.out, HSU.out] at hbk
                            have hMl : M = p + (aa.length - s - p) + (bb.length - s - p) + s := by
                              rw [← HM.out, hbk]; simp only [List.length_append, List.length_replicate]; omega
                            have hne : ((M : Int) != (aa.length : Int) + bb.length - p - s) = false := by
                              rw [bne_eq_false_iff_eq]; omega
                            have HG := hid (fun t (ht : t < M) => by
                              have := My.block_get p (aa.length - s - p) (bb.length - s - p) s t (by omega)
                              rw [← hbk] at this
                              exact this)
                            have HML := hid hMl
                            clear hbk HBK2 HP HSU hMl
                            go_wp2_with (fail)
                            go_loopg [18, 19] M (fun gm tv sv wr => ∃ t : Nat, gm = M - t ∧ tv = .int .i64 t ∧ t ≤ M ∧ Below w4.heap.size w4 wr)
                            case atStart => exact ⟨0, rfl, rfl, by omega, below_drewN (Below.refl _ _) _⟩
                            case round =>
                              obtain ⟨t', rfl, rfl, ht', hB⟩ := hrel
                              have HB := hid hB
                              by_cases hlt' : t' < M
                              · have hgt := HG.out t' hlt'
                                have hlt1 : (t' : Int) < M := by omega
                                obtain ⟨x0, _, _⟩ := (HK4.out.below hB HK4.out.lt).line t' _ (by rw [number_get, hgt]; rfl)
                                simp only at x0
                                clear hgt hB
                                by_cases c1 : t' < p
                                · rw [if_pos (Or.inl c1)] at x0
                                  have k1 : (t' : Int) < p := by omega
                                  have k2 : ((ob 32).toList == [32]) = true := by rw [ob_eq]; rfl
                                  go_wp2_with (fail)
                                  go_roundg (M - (t' + 1))
                                  case measure => omega
                                  case rel => exact ⟨t' + 1, rfl, by go_num, by omega, HB.out⟩
                                · by_cases c2 : p + (aa.length - s - p) + (bb.length - s - p) ≤ t'
                                  · rw [if_pos (Or.inr c2)] at x0
                                    have k1 : ¬ (t' : Int) < p := by omega
                                    have k3 : (M : Int) - s ≤ t' := by have := HML.out; omega
                                    have k2 : ((ob 32).toList == [32]) = true := by rw [ob_eq]; rfl
                                    go_wp2_with (fail)
                                    go_roundg (M - (t' + 1))
                                    case measure => omega
                                    case rel => exact ⟨t' + 1, rfl, by go_num, by omega, HB.out⟩
                                  · rw [if_neg (by omega)] at x0
                                    have k1 : ¬ (t' : Int) < p := by omega
                                    have k3 : ¬ (M : Int) - s ≤ t' := by have := HML.out; omega
                                    have k5 : s ≤ aa.length - p ∧ s ≤ bb.length - p := ⟨hs1, hs2⟩
                                    by_cases c3 : t' < p + (aa.length - s - p)
                                    · rw [if_pos c3] at x0
                                      have k4 : (t' : Int) < (aa.length : Int) - s := by omega
                                      have k2 : ((ob 45).toList == [45]) = true := by rw [ob_eq]; rfl
                                      go_wp2_with (fail)
                                      go_roundg (M - (t' + 1))
                                      case measure => omega
                                      case rel => exact ⟨t' + 1, rfl, by go_num, by omega, HB.out⟩
                                    · rw [if_neg c3] at x0
                                      have k4 : ¬ (t' : Int) < (aa.length : Int) - s := by omega
                                      have k2 : ((ob 43).toList == [43]) = true := by rw [ob_eq]; rfl
                                      go_wp2_with (fail)
                                      go_roundg (M - (t' + 1))
                                      case measure => omega
                                      case rel => exact ⟨t' + 1, rfl, by go_num, by omega, HB.out⟩
                              · have hlt1 : ¬ (t' : Int) < M := by omega
                                have z9 := HW4.out.size
                                clear hB
                                go_wp2_with (fail)
                                go_ret
                                exact ⟨rfl, HW4.out.trans (HB.out.mono z9)⟩
    · have hnl : ¬ aa.length ≤ 4096 ∨ (aa.length ≤ 4096 ∧ ¬ bb.length ≤ 4096) := by omega
      clear h4
      rcases hnl with h | ⟨h, h'⟩
      all_goals
        go_wp2_with (fail)
        go_ret
        exact ⟨rfl, Below.refl _ _⟩
end Go.Proofs.Qxb6602717a
