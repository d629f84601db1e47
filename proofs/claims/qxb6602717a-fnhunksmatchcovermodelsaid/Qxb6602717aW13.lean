/-
  THE WALK OF THE LAW FnHunksMatchCoverModel.
-/
import Derived.Test.Qxb6602717aCov
import Derived.Test.Qxb6602717aWB
import Derived.Test.Qxb6602717aW12
namespace Go.Proofs.Qxb6602717a
open Go.RowKit
open My (linesOf chg HInv Runs)

theorem Try.info4' : (Try.prog.info? 4).map (fun i => (i.zero, i.size, i.bytes)) = some (some (.bool false), 1, 1) := by kernel_rfl
theorem Try.underlying42 : Try.prog.underlying 42 = some (.slice 4) := by kernel_rfl

/-- The cell of a hunk's row. -/
theorem own_hunk {w : World} {B : Nat} {a : Option Addr} {n c g M : Nat} {H : List (Nat × Nat)} (h : w.ownsRow B 43 1 (.slice a n c) n (H.map (hunkV g M))) (i : Nat) (p : Nat × Nat) (hi : H[i]? = some p) :
    ∃ b, a = some ⟨b, 0, none⟩ ∧ w.cell? ⟨b, i, none⟩ = some (hunkV g M p) := by
  have hl := h.1
  have hi' := (List.getElem?_eq_some_iff.1 hi).1
  simp at hl
  obtain ⟨b, c', hv, hg⟩ := owns_get h (by omega)
  simp only [Value.slice.injEq, true_and] at hv
  obtain ⟨rfl, rfl⟩ := hv
  exact ⟨b, rfl, hg i _ (by simp [hi])⟩

set_option maxHeartbeats 8000000 in
set_option maxRecDepth 100000 in
theorem hunksModel_any (a0 a1 : Option Addr) (c0 c1 : Nat) (aa bb : List ByteArray) (cx : Int) (w : World) (hm0 : aa.length ≤ maxLen) (hm1 : bb.length ≤ maxLen)
    (hs0 : ∀ s ∈ aa, s.size ≤ maxLen) (hs1 : ∀ s ∈ bb, s.size ≤ maxLen) (ha0 : SAt w a0 aa) (ha1 : SAt w a1 bb)
    (hn0 : a0 = none → aa = [] ∧ c0 = 0) (hn1 : a1 = none → bb = [] ∧ c1 = 0) :
    Calls Try.prog 7 #[.slice a0 aa.length c0, .slice a1 bb.length c1, .int .i64 cx] w (RetT w) := by
  have HBY := hid (bytes2_20 a0 a1 c0 c1 aa bb cx w hm0 hm1 hs0 hs1 ha0 ha1)
  have H0 := hid ha0
  have H1 := hid ha1
  have HS0 := hid hs0
  have HS1 := hid hs1
  have HN0 := hid hn0
  have HN1 := hid hn1
  unfold maxLen at hm0 hm1
  clear ha0 ha1 hs0 hs1 hn0 hn1
  go_enter Try.func7, Try.ntmps7
  go_wp2_with (fail)
  refine HBY.out.mono ?_
  rintro e w' ⟨b, rfl, rfl⟩
  clear HBY
  cases b with
  | false =>
    go_wp2_with (fail)
    go_ret
    exact ⟨rfl, Below.refl _ _⟩
  | true =>
    by_cases h4 : aa.length ≤ 4096 ∧ bb.length ≤ 4096
    · obtain ⟨l0, l1⟩ := h4
      go_wp2_with (fail)
      refine (addBytes_any 0 a0 c0 aa w (by omega) (by omega) (by omega) HS0.out H0.out).mono ?_
      rintro e w' ⟨t1, b1, t10, t11, rfl, rfl⟩
      cases b1 with
      | false =>
        go_wp2_with (fail)
        go_ret
        exact ⟨rfl, Below.refl _ _⟩
      | true =>
        go_wp2_with (fail)
        refine (addBytes_any t1 a1 c1 bb w t10 t11 (by omega) HS1.out H1.out).mono ?_
        rintro e w' ⟨t2, b2, t20, t21, rfl, rfl⟩
        cases b2 with
        | false =>
          go_wp2_with (fail)
          go_ret
          exact ⟨rfl, Below.refl _ _⟩
        | true =>
          by_cases hcx : 0 ≤ cx ∧ cx ≤ 2305843009213693951
          case neg =>
            have hcx' : cx < 0 ∨ (¬ cx < 0 ∧ 2305843009213693951 < cx) := by omega
            clear hcx
            rcases hcx' with h | ⟨h, h'⟩
            all_goals
              go_wp2_with (fail)
              go_ret
              exact ⟨rfl, Below.refl _ _⟩
          obtain ⟨C, rfl⟩ : ∃ C : Nat, cx = C := ⟨cx.toNat, by omega⟩
          have hC : C ≤ 2305843009213693951 := by omega
          have hC0 : (0 : Int) ≤ C := by omega
          clear hcx
          go_wp2_with (fail)
          refine (clone_any a0 c0 aa w HN0.out (by omega) H0.out).mono ?_
          rintro e w1 ⟨v1, rfl, ho1, hb1⟩
          have HO1 := hid ho1
          have HB1 := hid hb1
          have z1 := hb1.size
          obtain ⟨p1, d1, rfl⟩ := own_form ho1
          clear ho1 hb1
          go_wp2_with (fail)
          refine (clone_any a1 c1 bb w1 HN1.out (by omega) (H1.out.below HB1.out)).mono ?_
          rintro e w2 ⟨v2, rfl, ho2, hb2⟩
          have HO2 := hid ho2
          have HB2 := hid hb2
          have z2 := hb2.size
          obtain ⟨p2, d2, rfl⟩ := own_form ho2
          clear ho2 hb2
          obtain ⟨pa, cpa, hv1, _, qa1, qa2, sa⟩ := owns_val (ownsRow_below HO1.out HB2.out (Nat.le_refl _))
          obtain ⟨pb, cpb, hv2, _, qb1, qb2, sb⟩ := owns_val HO2.out
          simp only [Value.slice.injEq, true_and] at hv1 hv2
          obtain ⟨rfl, rfl⟩ := hv1
          obtain ⟨rfl, rfl⟩ := hv2
          have SA := hid sa
          have SB := hid sb
          have HW2 := hid (show Below w.heap.size w w2 from HB1.out.trans (HB2.out.mono (by omega)))
          have HLN := hid (lines_any p1 p2 d1 d2 aa bb w2 (by omega) (by omega) qa1 qb1 qa2 qb2 sa sb)
          have hlb := lines_bound aa bb
          have HLB := hid hlb.2
          obtain ⟨hlb1, _⟩ := hlb
          have HQA1 := hid qa1
          have HQA2 := hid qa2
          have HQB1 := hid qb1
          have HQB2 := hid qb2
          clear sa sb HO1 HO2 HB1 HB2 H0 H1 HN0 HN1 HS0 HS1 qa1 qa2 qb1 qb2
          have zw : w.heap.size ≤ w2.heap.size := by omega
          clear z1 z2
          go_wp2_with (fail)
          refine HLN.out.mono ?_
          rintro e w3 ⟨g1, rfl, hg1, hk3, hb3⟩
          have HK3 := hid hk3
          have z3 := hb3.size
          have HB3 := hid hb3
          have HHK := hid (hunks_any p1 p2 d1 d2 C aa bb w3 (by omega) (by omega) HQA1.out HQB1.out HQA2.out HQB2.out hC (SA.out.below hb3) (SB.out.below hb3))
          clear hk3 hb3 HLN
          generalize linesOf aa bb = LS at *
          obtain ⟨M, hM⟩ : ∃ M, LS.length = M := ⟨_, rfl⟩
          have HM := hid hM
          rw [hM] at hlb1 ⊢
          clear hM HLB SA SB HQA1 HQA2 HQB1 HQB2
          have hMb : M ≤ 16384 := by omega
          go_wp2_with (fail)
          refine HHK.out.mono ?_
          rintro e w4 ⟨g2, v, H, rfl, hg2, hk4, ho4, hH, hb4⟩
          rw [HM.out] at ho4 hH
          obtain ⟨p4, d4, rfl⟩ := own_form ho4
          have HO4 := hid ho4
          have HH := hid hH
          have HK4 := hid hk4
          have HK34 := hid (HK3.out.below hb4 HK3.out.lt)
          have z4 := hb4.size
          have HW4 := hid (HW2.out.trans ((HB3.out.mono zw).trans (hb4.mono (by omega))))
          have hHl := hH.len
          have lg1 := HK34.out.lt
          have lg2 := hk4.lt
          clear hk4 ho4 hH hb4 HHK HK3 HB3 HW2 hg1 hg2
          have hmk := run_make_row' (P := Try.prog) 42 4 (.bool false) 1 Try.underlying42 Try.info4' rfl .i64 .i64 M (by omega) (by omega)
          go_wp2_with (fail)
          clear hmk
          have HMX := hid (show ∀ u, chg LS u = true → u < M from fun u hu => by rw [← HM.out]; exact My.chg_lt hu)
          go_loopg [13, 14] M (fun gm zv tv wr => ∃ (t : Nat) (z : Int) (f : Nat → Bool), gm = M - t ∧ t ≤ M ∧ zv = .int .i64 z ∧ tv = .int .i64 t ∧ Lst (chg LS) t z ∧ Fw (chg LS) C M t f ∧ Blk wr w4.heap.size 4 (brow M f) ∧ Below w4.heap.size w4 wr)
          case atStart => exact ⟨0, -1, _, rfl, by omega, rfl, rfl, Lst.start _, Fw.start _ _ _, by rw [brow_zero]; exact Blk.made w4 4 _ _, (Below.refl _ w4).alloc (Nat.le_refl _) _⟩
          case round =>
            obtain ⟨t, z, f, rfl, ht, rfl, rfl, hz, hf, hKf, hB⟩ := hrel
            have HF := hid hf
            have HKf := hid hKf
            have HB := hid hB
            by_cases hlt : t < M
            · have htl : t < LS.length := by rw [HM.out]; exact hlt
              obtain ⟨q, hq⟩ : ∃ q, LS[t]? = some q := ⟨LS[t], List.getElem?_eq_getElem htl⟩
              have hcg := My.chg_some hq
              obtain ⟨x0, _, _⟩ := (HK34.out.below hB lg1).line t q hq
              have c0 := hKf.bcell t hlt
              have f0 := hKf.frozen t
              have hlt1 : (t : Int) < M := by omega
              clear htl hq hB hKf hf
              by_cases hq1 : q.1 = 32
              · have k1 : ((ob q.1).toList == [32]) = true := by rw [ob_eq]; exact decide_eq_true hq1
                have hc : chg LS t = false := by rw [hcg, hq1]; rfl
                have HC := hid hc
                clear hq1 hcg hc
                rcases hz with ⟨rfl, hz⟩ | ⟨v, rfl, hv1, hv2, hv3⟩
                · have HZ := hid hz
                  clear hz
                  go_wp2_with (fail)
                  go_roundg (M - (t + 1))
                  case measure => omega
                  case rel => exact ⟨t + 1, -1, f, rfl, by omega, rfl, by go_num, Lst.none HZ.out HC.out, HF.out.no (no_none C HZ.out HC.out), HKf.out, HB.out⟩
                · have HV2 := hid hv2
                  have HV3 := hid hv3
                  clear hv2 hv3
                  by_cases hd : t ≤ v + C
                  · have hd1 : (t : Int) - v ≤ C := by omega
                    go_wp2_with (fail)
                    go_roundg (M - (t + 1))
                    case measure => omega
                    case rel => exact ⟨t + 1, v, _, rfl, by omega, rfl, by go_num, Lst.old hv1 HV2.out HV3.out HC.out, HF.out.yes v (by omega) HV2.out hd, by rw [← brow_set]; exact HKf.out.set t _, HB.out.setCell (Nat.le_refl _) _⟩
                  · have hd1 : ¬ (t : Int) - v ≤ C := by omega
                    go_wp2_with (fail)
                    go_roundg (M - (t + 1))
                    case measure => omega
                    case rel => exact ⟨t + 1, v, f, rfl, by omega, rfl, by go_num, Lst.old hv1 HV2.out HV3.out HC.out, HF.out.no (no_old HV3.out HC.out hd), HKf.out, HB.out⟩
              · have k1 : ((ob q.1).toList == [32]) = false := by rw [ob_eq]; exact decide_eq_false hq1
                have HC := hid (show chg LS t = true by rw [hcg]; simpa using hq1)
                clear hq1 hcg hz
                go_wp2_with (fail)
                go_roundg (M - (t + 1))
                case measure => omega
                case rel => exact ⟨t + 1, t, _, rfl, by omega, rfl, by go_num, Lst.here HC.out, HF.out.yes t (by omega) HC.out (by omega), by rw [← brow_set]; exact HKf.out.set t _, HB.out.setCell (Nat.le_refl _) _⟩
            · obtain rfl : t = M := by omega
              have hlt1 : ¬ (t : Int) < t := by omega
              clear hz hf hKf hB hlt
              go_wp2_with (fail)
              go_loopg [15, 16] t (fun gm zv tv wr => ∃ (u : Nat) (z : Int) (f : Nat → Bool), u = gm ∧ u ≤ t ∧ zv = .int .i64 z ∧ tv = .int .i64 ((u : Int) - 1) ∧ Nxt (chg LS) u z ∧ Bw (chg LS) C t u f ∧ Blk wr w4.heap.size 4 (brow t f) ∧ Below w4.heap.size w4 wr)
              case atStart => exact ⟨t, -1, f, rfl, by omega, rfl, rfl, Nxt.start HMX.out, Bw.start HF.out, HKf.out, HB.out⟩
              case round =>
                clear HF HKf HB
                obtain ⟨u, z, f, rfl, hu, rfl, rfl, hz, hf, hKf, hB⟩ := hrel
                have HF := hid hf
                have HKf := hid hKf
                have HB := hid hB
                by_cases hu0 : u = 0
                · subst hu0
                  have HR := hid (HH.out.runs f (hf.near HMX.out))
                  have HWr := hid (HW4.out.trans (hB.mono HW4.out.size))
                  have HO4r := hid (ownsRow_below HO4.out hB (Nat.le_refl _))
                  have HK4r := hid (HK4.out.below hB lg2)
                  have HK34r := hid (HK34.out.below hB lg1)
                  clear hz hf hKf hB HF HB HW4 HO4 HK4 HK34 HH
                  go_wp2_with (fail)
                  go_loopg [17, 18] t (fun gm kv tv w6 => ∃ s k : Nat, gm = t - s ∧ s ≤ t ∧ k ≤ H.length ∧ kv = .int .i64 k ∧ tv = .int .i64 s ∧ Runs f t s (H.drop k) ∧ ∃ n, w6 = wr.drewN n)
                  case atStart => exact ⟨0, 0, rfl, by omega, by omega, rfl, rfl, HR.out, 0, rfl⟩
                  case round =>
                    clear HR
                    obtain ⟨s, k, rfl, hs, hk, rfl, rfl, hR, n, rfl⟩ := hrel
                    have HR := hid hR
                    by_cases hst : s < t
                    · have hst1 : (s : Int) < t := by omega
                      have c0 := HKf.out.bcell s hst
                      cases hfs : f s with
                      | false =>
                        rw [hfs] at c0
                        have HR2 := hid (hR.skip hfs)
                        clear hR hfs
                        go_wp2_with (fail)
                        go_roundg (t - (s + 1))
                        case measure => omega
                        case rel => exact ⟨s + 1, k, rfl, by omega, by omega, rfl, by go_num, HR2.out, n, rfl⟩
                      | true =>
                        rw [hfs] at c0
                        obtain ⟨hi, H', hHk, hi1, hi2, hin, hout, hR'⟩ := hR.run hst hfs
                        have HHK := hid hHk
                        have HIN := hid hin
                        have HOUT := hid hout
                        have HR2 := hid hR'
                        clear hR hR' hHk hin hout hfs HR
                        go_wp2_with (fail)
                        go_loopg [18] (hi - s) (fun gm tv w7 => ∃ x : Nat, gm = hi - x ∧ s ≤ x ∧ x ≤ hi ∧ tv = .int .i64 x ∧ w7 = wr.drewN n)
                        case atStart => exact ⟨s, rfl, by omega, by omega, rfl, rfl⟩
                        case round =>
                          obtain ⟨x, rfl, hx1, hx2, rfl, rfl⟩ := hrel
                          by_cases hxh : x < hi
                          · have c1 := HKf.out.bcell x (by omega)
                            rw [HIN.out x hx1 hxh] at c1
                            have hx3 : (x : Int) < t := by omega
                            go_wp2_with (fail)
                            go_roundg (hi - (x + 1))
                            case measure => omega
                            case rel => exact ⟨x + 1, rfl, by omega, by omega, by go_num, rfl⟩
                          · obtain rfl : x = hi := by omega
                            clear c0
                            go_upto_region 41 with (fail)
                            go_cut [139] (fun tt wc => tt = .bool false ∧ wc = wr.drewN n)
                            case first =>
                              by_cases hxt : x < t
                              · have c1 := HKf.out.bcell x hxt
                                rw [HOUT.out hxt] at c1
                                have hx3 : (x : Int) < t := by omega
                                go_wp2
                                go_meet
                                exact ⟨rfl, rfl⟩
                              · have hx3 : ¬ (x : Int) < t := by omega
                                go_wp2
                                go_meet
                                exact ⟨rfl, rfl⟩
                            case rest =>
                              obtain ⟨rfl, rfl⟩ := hcut
                              have hHk2 : H[k]? = some (s, x) := by
                                have := congrArg (fun l => l[0]?) HHK.out
                                simpa using this
                              have hkl : k < H.length := (List.getElem?_eq_some_iff.1 hHk2).1
                              have HD := hid (show H.drop (k + 1) = H' by rw [← List.tail_drop, HHK.out]; rfl)
                              obtain ⟨b4, hp4, hc4⟩ := own_hunk HO4r.out k _ hHk2
                              subst hp4
                              obtain ⟨N, hN⟩ : ∃ N, x - s = N := ⟨_, rfl⟩
                              simp only [hunkV, hN] at hc4
                              have n1 : s + N ≤ x := by omega
                              have n2 : x ≤ s + N := by omega
                              have hne : ((N : Int) != (x : Int) - s) = false := by rw [bne_eq_false_iff_eq]; omega
                              have hne' : (!((N : Int) == (x : Int) - s)) = false := by simp; omega
                              have hk1 : ¬ (H.length : Int) ≤ k := by omega
                              clear hN hHk2 hxh
                              go_wp2_with (fail)
                              clear hc4
                              go_loopg [21] N (fun gm yv w8 => ∃ y : Nat, gm = N - y ∧ y ≤ N ∧ yv = .int .i64 y ∧ ∃ n, w8 = wr.drewN n)
                              case atStart => exact ⟨0, rfl, by omega, rfl, n, rfl⟩
                              case round =>
                                obtain ⟨y, rfl, hy, rfl, n8, rfl⟩ := hrel
                                by_cases hyN : y < N
                                · have hsy : s + y < LS.length := by rw [HM.out]; omega
                                  obtain ⟨⟨o, i, j⟩, hq⟩ : ∃ q, LS[s + y]? = some q := ⟨LS[s + y], List.getElem?_eq_getElem hsy⟩
                                  obtain ⟨x0, x1, x2⟩ := HK34r.out.line (s + y) _ hq
                                  obtain ⟨y0, y1, y2⟩ := HK4r.out.line (s + y) _ hq
                                  rw [Nat.add_mul] at y0 y1 y2
                                  simp only at x0 x1 x2 y0 y1 y2
                                  have hy1 : (y : Int) < N := by omega
                                  have hy2 : (s : Int) + y < t := by omega
                                  have kk : ((ob o).toList == (ob o).toList) = true := by simp
                                  clear hsy hq
                                  go_wp2_with (fail)
                                  go_quiet (fail)
                                  go_wp2_with (fail)
                                  go_roundg (N - (y + 1))
                                  case measure => omega
                                  case rel => exact ⟨y + 1, rfl, by omega, by go_num, n8 + nq, by simp⟩
                                · have hy1 : ¬ (y : Int) < N := by omega
                                  clear hyN
                                  go_wp2_with (fail)
                                  go_roundg (t - x)
                                  case measure => omega
                                  case rel => exact ⟨x, k + 1, rfl, by omega, by omega, by go_num, rfl, by rw [HD.out]; exact HR2.out, _, rfl⟩
                    · obtain rfl : s = t := by omega
                      have hkH : H.length ≤ k := by
                        cases hd : H.drop k with
                        | nil => have := congrArg List.length hd; simp at this; omega
                        | cons y ys => rw [hd] at hR; obtain ⟨a1, a2, a3, _⟩ := hR; omega
                      obtain rfl : k = H.length := by omega
                      have hst1 : ¬ (s : Int) < s := by omega
                      clear hR HR
                      go_wp2_with (fail)
                      go_ret
                      exact ⟨rfl, below_drewN HWr.out n⟩
                · obtain ⟨u, rfl⟩ : ∃ x, u = x + 1 := ⟨u - 1, by omega⟩
                  have htl : u < LS.length := by rw [HM.out]; omega
                  obtain ⟨q, hq⟩ : ∃ q, LS[u]? = some q := ⟨LS[u], List.getElem?_eq_getElem htl⟩
                  have hcg := My.chg_some hq
                  have ecast : (((u + 1 : Nat) : Int) - 1) = u := by omega
                  rw [ecast]
                  obtain ⟨x0, _, _⟩ := (HK34.out.below hB lg1).line u q hq
                  have c0 := hKf.bcell u (by omega)
                  have f0 := hKf.frozen u
                  have hlt1 : (0 : Int) ≤ u := by omega
                  clear htl hq hB hKf hf hu0 ecast
                  by_cases hq1 : q.1 = 32
                  · have k1 : ((ob q.1).toList == [32]) = true := by rw [ob_eq]; exact decide_eq_true hq1
                    have hc : chg LS u = false := by rw [hcg, hq1]; rfl
                    have HC := hid hc
                    clear hq1 hcg hc
                    rcases hz with ⟨rfl, hz⟩ | ⟨v, rfl, hv1, hv2, hv3⟩
                    · have HZ := hid hz
                      clear hz
                      go_wp2_with (fail)
                      go_roundg u
                      case measure => omega
                      case rel => exact ⟨u, -1, f, rfl, by omega, rfl, rfl, Nxt.none HZ.out HC.out, HF.out.no (nxt_none C HZ.out HC.out), HKf.out, HB.out⟩
                    · have HV2 := hid hv2
                      have HV3 := hid hv3
                      have hv4 := HMX.out v hv2
                      clear hv2 hv3
                      by_cases hd : v ≤ u + C
                      · have hd1 : (v : Int) - u ≤ C := by omega
                        go_wp2_with (fail)
                        go_roundg u
                        case measure => omega
                        case rel => exact ⟨u, v, _, rfl, by omega, rfl, rfl, Nxt.old hv1 HV2.out HV3.out HC.out, HF.out.yes v (by omega) HV2.out hd, by rw [← brow_set]; exact HKf.out.set u _, HB.out.setCell (Nat.le_refl _) _⟩
                      · have hd1 : ¬ (v : Int) - u ≤ C := by omega
                        go_wp2_with (fail)
                        go_roundg u
                        case measure => omega
                        case rel => exact ⟨u, v, f, rfl, by omega, rfl, rfl, Nxt.old hv1 HV2.out HV3.out HC.out, HF.out.no (nxt_old HV3.out HC.out hd), HKf.out, HB.out⟩
                  · have k1 : ((ob q.1).toList == [32]) = false := by rw [ob_eq]; exact decide_eq_false hq1
                    have HC := hid (show chg LS u = true by rw [hcg]; simpa using hq1)
                    clear hq1 hcg hz
                    go_wp2_with (fail)
                    go_roundg u
                    case measure => omega
                    case rel => exact ⟨u, u, _, rfl, by omega, rfl, rfl, Nxt.here HC.out, HF.out.yes u (by omega) HC.out (by omega), by rw [← brow_set]; exact HKf.out.set u _, HB.out.setCell (Nat.le_refl _) _⟩
    · have hnl : ¬ aa.length ≤ 4096 ∨ (aa.length ≤ 4096 ∧ ¬ bb.length ≤ 4096) := by omega
      clear h4
      rcases hnl with h | ⟨h, h'⟩
      all_goals
        go_wp2_with (fail)
        go_ret
        exact ⟨rfl, Below.refl _ _⟩
end Go.Proofs.Qxb6602717a
