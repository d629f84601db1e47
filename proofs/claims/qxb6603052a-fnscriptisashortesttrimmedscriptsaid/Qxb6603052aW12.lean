/-
  THE WALKS OF ZZscript AND OF THE LAW FnScriptNeverLongerThanShortest.
-/
import Derived.Test.Qxb6603052aW11
import Derived.Test.Qxb6603052aFin
namespace Go.Proofs.Qxb6603052a
open Go.RowKit
open My (F D L Vd sn back shortestOps scriptOps norm pre suf play stepO same eqAt)

theorem script_len (aa bb : List ByteArray) : (norm (scriptOps aa bb) 0 0).length ≤ aa.length + bb.length := by
  have h1 := play_cnt aa bb _ 0 0 _ (My.norm_script_play aa bb)
  have h2 := len_cnt (norm (scriptOps aa bb) 0 0)
  simp only [Nat.zero_add, Prod.mk.injEq] at h1
  omega

set_option maxHeartbeats 2000000 in
theorem zzScript_any (a b : Option Addr) (ca cbb : Nat) (aa bb : List ByteArray) (w : World) (hla : aa.length ≤ 8192) (hlb : bb.length ≤ 8192) (hca : aa.length ≤ ca) (hcb : bb.length ≤ cbb) (hma : ca ≤ maxLen) (hmb : cbb ≤ maxLen) (ha : SAt w a aa) (hb : SAt w b bb) :
    Calls Try.prog 15 #[.slice a aa.length ca, .slice b bb.length cbb] w (Zz w (lay aa bb (norm (scriptOps aa bb) 0 0) 0 0)) := by
  have HSH := hid (script_any a b ca cbb aa bb w hla hlb hca hcb hma hmb ha hb)
  have hlen : (lay aa bb (norm (scriptOps aa bb) 0 0) 0 0).length ≤ 60000 := by
    rw [lay_length]
    have := script_len aa bb
    omega
  clear ha hb hma hmb
  go_enter Try.func15, Try.ntmps15
  go_wp2_with (fail)
  refine HSH.out.mono ?_
  rintro e w1 ⟨v, rfl, ho, hb1⟩
  have HB1 := hid hb1
  have HZ := hid (zzEdits_any _ v _ w1 hlen ho)
  clear ho hb1 HSH
  go_wp2_with (fail)
  refine HZ.out.mono ?_
  rintro e w2 ⟨gk, gl, rfl, h1, h2, h3, h4, h5⟩
  have H3 := hid h3
  have H4 := hid h4
  have H5 := hid h5
  clear h3 h4 h5 HZ
  go_wp2_with (fail)
  go_ret2
  exact ⟨gk, gl, rfl, Nat.le_trans HB1.out.size h1, Nat.le_trans HB1.out.size h2, H3.out, H4.out, HB1.out.trans (H5.out.mono HB1.out.size)⟩

set_option maxHeartbeats 8000000 in
set_option maxRecDepth 100000 in
theorem neverLaw_any (a0 a1 : Option Addr) (c0 c1 : Nat) (aa bb : List ByteArray) (w : World) (hm0 : aa.length ≤ maxLen) (hm1 : bb.length ≤ maxLen)
    (hs0 : ∀ s ∈ aa, s.size ≤ maxLen) (hs1 : ∀ s ∈ bb, s.size ≤ maxLen) (ha0 : SAt w a0 aa) (ha1 : SAt w a1 bb)
    (hn0 : a0 = none → aa = [] ∧ c0 = 0) (hn1 : a1 = none → bb = [] ∧ c1 = 0) :
    Calls Try.prog 5 #[.slice a0 aa.length c0, .slice a1 bb.length c1] w (RetT w) := by
  have HBY := hid (bytes2_17 a0 a1 c0 c1 aa bb w hm0 hm1 hs0 hs1 ha0 ha1)
  have H0 := hid ha0
  have H1 := hid ha1
  have HS0 := hid hs0
  have HS1 := hid hs1
  have HN0 := hid hn0
  have HN1 := hid hn1
  unfold maxLen at hm0 hm1
  clear ha0 ha1 hs0 hs1 hn0 hn1
  go_enter Try.func5, Try.ntmps5
  go_wp2_with (fail)
  refine HBY.out.mono ?_
  rintro e w' ⟨b, rfl, rfl⟩
  clear HBY
  cases b with
  | false =>
    go_wp2_with (fail)
    go_ret
    exact ⟨rfl, Below.refl _ _⟩
  | true =>
    by_cases h4 : aa.length ≤ 1024 ∧ bb.length ≤ 1024
    · obtain ⟨l0, l1⟩ := h4
      go_wp2_with (fail)
      refine (addBytes_any a0 c0 aa w (by omega) HS0.out H0.out).mono ?_
      rintro e w' ⟨t1, t10, t11, rfl, rfl⟩
      go_wp2_with (fail)
      refine (addBytes_any a1 c1 bb w (by omega) HS1.out H1.out).mono ?_
      rintro e w' ⟨t2, t20, t21, rfl, rfl⟩
      by_cases hbig : 1048576 < t1 + t2
      · go_wp2_with (fail)
        go_ret
        exact ⟨rfl, Below.refl _ _⟩
      · go_wp2_with (fail)
        refine (clone_any a0 c0 aa w HN0.out (by omega) H0.out).mono ?_
        rintro e w1 ⟨v1, rfl, ho1, hb1⟩
        have HO1 := hid ho1
        have HB1 := hid hb1
        have z1 := hb1.size
        obtain ⟨p1, d1, rfl⟩ := own_form ho1
        clear ho1 hb1
        go_wp2_with (fail)
        refine (clone_any a1 c1 bb w1 HN1.out (by omega) (H1.out.below HB1.out)).mono ?_
        rintro e w2 ⟨v2, rfl, ho2, hb2⟩
        have HO2 := hid ho2
        have HB2 := hid hb2
        have z2 := hb2.size
        obtain ⟨p2, d2, rfl⟩ := own_form ho2
        clear ho2 hb2
        obtain ⟨pa, cpa, hv1, _, qa1, qa2, sa⟩ := owns_val (ownsRow_below HO1.out HB2.out (Nat.le_refl _))
        obtain ⟨pb, cpb, hv2, _, qb1, qb2, sb⟩ := owns_val HO2.out
        simp only [Value.slice.injEq, true_and] at hv1 hv2
        obtain ⟨rfl, rfl⟩ := hv1
        obtain ⟨rfl, rfl⟩ := hv2
        have SA := hid sa
        have SB := hid sb
        have HW2 := hid (show Below w.heap.size w w2 from HB1.out.trans (HB2.out.mono (by omega)))
        have HZS := hid (zzScript_any p1 p2 d1 d2 aa bb w2 (by omega) (by omega) qa1 qb1 qa2 qb2 sa sb)
        have zw : w.heap.size ≤ w2.heap.size := by omega
        clear sa sb HO1 HO2 HB1 HB2 H0 H1 HN0 HN1 HS0 HS1 qa1 qa2 qb1 qb2 z1 z2
        go_wp2_with (fail)
        refine HZS.out.mono ?_
        rintro e w3 ⟨gk, gl, rfl, h1, h2, h3, h4, hb3⟩
        have lgk := h3.lt
        have HK3 := hid (KAt_of (EAt_of h3 h4))
        have HKB := hid h3
        have HLB := hid h4
        have HB3 := hid hb3
        have z3 := hb3.size
        have HZS2 := hid (zzShortest_any p1 p2 d1 d2 aa bb w3 (by omega) (by omega) (SA.out.below hb3) (SB.out.below hb3))
        have hlen := script_len aa bb
        have hlen2 := shortest_len aa bb
        have HNL := hid (never_longer aa bb)
        rw [lay_length]
        have lgl := h4.lt
        clear h1 h2 h3 h4 hb3 HZS
        obtain ⟨sc, hsc⟩ : ∃ sc, norm (scriptOps aa bb) 0 0 = sc := ⟨_, rfl⟩
        obtain ⟨so, hso⟩ : ∃ so, shortestOps aa bb = so := ⟨_, rfl⟩
        rw [hsc] at HK3 HKB HLB hlen HNL ⊢
        rw [hso] at hlen2 HNL HZS2
        obtain ⟨M, hM⟩ : ∃ M, sc.length = M := ⟨_, rfl⟩
        have HM := hid hM
        rw [hM] at hlen ⊢
        clear hM hsc hso
        go_wp2_with (fail)
        refine HZS2.out.mono ?_
        rintro e w4 ⟨gk2, gl2, rfl, h1, h2, h3, h4, hb4⟩
        have HKA := hid (KAt_of (EAt_of (HKB.out.below hb4 lgk) (HLB.out.below hb4 lgl)))
        have HKC := hid (KAt_of (EAt_of h3 h4))
        have HW4 := hid (HW2.out.trans ((HB3.out.mono zw).trans (hb4.mono (by omega))))
        rw [lay_length]
        clear h1 h2 h3 h4 hb4 HZS2 HK3 HKB HLB SA SB HB3 HW2
        obtain ⟨M2, hM2⟩ : ∃ M2, so.length = M2 := ⟨_, rfl⟩
        have HM2 := hid hM2
        rw [hM2] at hlen2 ⊢
        clear hM2
        have HC1 := hid (changes_any gk M sc w4 (by rw [HM.out]; omega) HKA.out)
        have HC2 := hid (changes_any gk2 M2 so w4 (by rw [HM2.out]; omega) HKC.out)
        rw [HM.out] at HC1
        rw [HM2.out] at HC2
        have b1 : chg sc ≤ 2048 := by have := script_chg_le aa bb; have := List.countP_le_length (p := fun o : UInt8 => o != 32) (l := sc); rw [HM.out] at this; unfold chg; omega
        have b2 : chg so ≤ 2048 := by have := List.countP_le_length (p := fun o : UInt8 => o != 32) (l := so); rw [HM2.out] at this; unfold chg; omega
        obtain ⟨x1, hx1⟩ : ∃ x, chg sc = x := ⟨_, rfl⟩
        obtain ⟨x2, hx2⟩ : ∃ x, chg so = x := ⟨_, rfl⟩
        have HX1 := hid (show sc.countP (fun o => o != 32) = x1 from hx1)
        have HX2 := hid (show so.countP (fun o => o != 32) = x2 from hx2)
        rw [hx1, hx2] at HNL
        rw [hx1] at b1
        rw [hx2] at b2
        rw [HX1.out] at HC1
        rw [HX2.out] at HC2
        clear hx1 hx2 HX1 HX2
        go_wp2_with (fail)
        refine HC1.out.mono ?_
        rintro e w5 ⟨rfl, rfl⟩
        go_wp2_with (fail)
        refine HC2.out.mono ?_
        rintro e w5 ⟨rfl, rfl⟩
        have hle := HNL.out.2
        by_cases hs : x2 ≤ 1000
        · have heq := HNL.out.1 hs
          have hfin : ((x1 : Int) == (x2 : Int)) = true := by simp; omega
          have hs1 : (x2 : Int) ≤ 1000 := by omega
          clear heq hs
          go_wp2_with (fail)
          go_ret
          exact ⟨rfl, HW4.out⟩
        · have hs1 : ¬ (x2 : Int) ≤ 1000 := by omega
          have hs2 : (x1 : Int) ≤ x2 := by omega
          go_wp2_with (fail)
          go_ret
          exact ⟨rfl, HW4.out⟩
    · have hnl : ¬ aa.length ≤ 1024 ∨ (aa.length ≤ 1024 ∧ ¬ bb.length ≤ 1024) := by omega
      clear h4
      rcases hnl with h | ⟨h, h'⟩
      all_goals
        go_wp2_with (fail)
        go_ret
        exact ⟨rfl, Below.refl _ _⟩
end Go.Proofs.Qxb6603052a
