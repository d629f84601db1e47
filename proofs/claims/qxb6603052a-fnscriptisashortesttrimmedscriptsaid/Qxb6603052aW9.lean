/-
  THE WALK OF THE LAW FnShortestIsAShortestScript.
-/
import Derived.Test.Qxb6603052aW8
import Derived.Test.Qxb6603052aW2
namespace Go.Proofs.Qxb6603052a
open Go.RowKit
open My (F D L Vd sn back shortestOps play stepO same eqAt)

def RetT (w : World) (e : Ending) (w' : World) : Prop := e = .returned (.bool true) ∧ Below w.heap.size w w'

theorem owns_val {w : World} {base : Nat} {e : TypeId} {v : Value} {n : Nat} {ss : List ByteArray} (h : w.ownsRow base e 1 v n (ss.map Value.string)) :
    ∃ a cap, v = .slice a n cap ∧ ss.length = n ∧ n ≤ cap ∧ cap ≤ maxLen ∧ SAt w a ss := by
  have hl : ss.length = n := by have := h.1; simpa using this
  subst hl
  obtain ⟨a, cap, hv, hc, hs⟩ := owns_SAt h
  refine ⟨a, cap, hv, rfl, ?_, hc, hs⟩
  rcases h.2 with ⟨hv2, hn⟩ | ⟨g, cap', cur, hv2, _, _, hnc, _⟩
  · omega
  · rw [hv] at hv2; simp only [Value.slice.injEq, true_and] at hv2; omega

theorem play_changes (aa bb : List ByteArray) (l : List UInt8) (i j : Nat) (q : Nat × Nat) (h : play aa bb l (i, j) = some q) : l.countP (fun o => o != 32) + 2 * l.count 32 + i + j = q.1 + q.2 := by
  induction l generalizing i j with
  | nil => simp only [play, Option.some.injEq] at h; subst h; simp
  | cons o l ih =>
    rw [play] at h
    cases hs : stepO aa bb o (i, j) with
    | none => rw [hs] at h; cases h
    | some r =>
      rw [hs] at h
      have h2 : play aa bb l r = some q := h
      rcases My.stepO_inv _ _ _ _ _ _ hs with ⟨rfl, _, rfl⟩ | ⟨rfl, _, rfl⟩ | ⟨rfl, _, rfl⟩
      · have := ih _ _ h2; rw [List.countP_cons, List.count_cons]; simp; omega
      · have := ih _ _ h2; rw [List.countP_cons, List.count_cons]; simp; omega
      · have := ih _ _ h2; rw [List.countP_cons, List.count_cons]; simp; omega

theorem EAt_of {w : World} {gk gl : Nat} {es : List Ed} (h1 : Blk w gk 5 (es.map kV)) (h2 : Blk w gl 9 (es.map lV)) : EAt w gk gl es := by
  intro i e he
  have hi := (List.getElem?_eq_some_iff.1 he).1
  have e1 : es[i] = e := (List.getElem?_eq_some_iff.1 he).2
  constructor
  · rw [h1.cell i (by simpa using hi)]; simp [e1, kV]
  · rw [h2.cell i (by simpa using hi)]; simp [e1, lV]

theorem KAt_of {aa bb : List ByteArray} {w : World} {gk gl : Nat} {l : List UInt8} (h : EAt w gk gl (lay aa bb l 0 0)) : KAt w gk l := fun i o ho => (h i _ (by rw [lay_get, ho]; rfl)).1
theorem LAt_of {w : World} {gk gl : Nat} {es : List Ed} (h : EAt w gk gl es) : LAt w gl es := fun i e he => (h i e he).2

set_option maxHeartbeats 8000000 in
set_option maxRecDepth 100000 in
theorem shortestLaw_any (a0 a1 : Option Addr) (c0 c1 : Nat) (aa bb : List ByteArray) (w : World) (hm0 : aa.length ≤ maxLen) (hm1 : bb.length ≤ maxLen)
    (hs0 : ∀ s ∈ aa, s.size ≤ maxLen) (hs1 : ∀ s ∈ bb, s.size ≤ maxLen) (ha0 : SAt w a0 aa) (ha1 : SAt w a1 bb)
    (hn0 : a0 = none → aa = [] ∧ c0 = 0) (hn1 : a1 = none → bb = [] ∧ c1 = 0) :
    Calls Try.prog 3 #[.slice a0 aa.length c0, .slice a1 bb.length c1] w (RetT w) := by
  have HBY := hid (bytes2_6 a0 a1 c0 c1 aa bb w hm0 hm1 hs0 hs1 ha0 ha1)
  have H0 := hid ha0
  have H1 := hid ha1
  have HS0 := hid hs0
  have HS1 := hid hs1
  have HN0 := hid hn0
  have HN1 := hid hn1
  unfold maxLen at hm0 hm1
  clear ha0 ha1 hs0 hs1 hn0 hn1
  go_enter Try.func3, Try.ntmps3
  go_wp2_with (fail)
  refine HBY.out.mono ?_
  rintro e w' ⟨b, rfl, rfl⟩
  clear HBY
  cases b with
  | false =>
    go_wp2_with (fail)
    go_ret
    exact ⟨rfl, Below.refl _ _⟩
  | true =>
    by_cases h4 : aa.length ≤ 1024 ∧ bb.length ≤ 1024
    · obtain ⟨l0, l1⟩ := h4
      go_wp2_with (fail)
      refine (addBytes_any a0 c0 aa w (by omega) HS0.out H0.out).mono ?_
      rintro e w' ⟨t1, t10, t11, rfl, rfl⟩
      go_wp2_with (fail)
      refine (addBytes_any a1 c1 bb w (by omega) HS1.out H1.out).mono ?_
      rintro e w' ⟨t2, t20, t21, rfl, rfl⟩
      by_cases hbig : 1048576 < t1 + t2
      · go_wp2_with (fail)
        go_ret
        exact ⟨rfl, Below.refl _ _⟩
      · go_wp2_with (fail)
        refine (clone_any a0 c0 aa w HN0.out (by omega) H0.out).mono ?_
        rintro e w1 ⟨v1, rfl, ho1, hb1⟩
        have HO1 := hid ho1
        have HB1 := hid hb1
        have z1 := hb1.size
        obtain ⟨p1, d1, rfl⟩ := own_form ho1
        clear ho1 hb1
        go_wp2_with (fail)
        refine (clone_any a1 c1 bb w1 HN1.out (by omega) (H1.out.below HB1.out)).mono ?_
        rintro e w2 ⟨v2, rfl, ho2, hb2⟩
        have HO2 := hid ho2
        have HB2 := hid hb2
        have z2 := hb2.size
        obtain ⟨p2, d2, rfl⟩ := own_form ho2
        clear ho2 hb2
        obtain ⟨pa, cpa, hv1, _, qa1, qa2, sa⟩ := owns_val (ownsRow_below HO1.out HB2.out (Nat.le_refl _))
        obtain ⟨pb, cpb, hv2, _, qb1, qb2, sb⟩ := owns_val HO2.out
        simp only [Value.slice.injEq, true_and] at hv1 hv2
        obtain ⟨rfl, rfl⟩ := hv1
        obtain ⟨rfl, rfl⟩ := hv2
        have SA := hid sa
        have SB := hid sb
        have HW2 := hid (show Below w.heap.size w w2 from HB1.out.trans (HB2.out.mono (by omega)))
        have HZS := hid (zzShortest_any p1 p2 d1 d2 aa bb w2 (by omega) (by omega) sa sb)
        have zw : w.heap.size ≤ w2.heap.size := by omega
        clear sa sb HO1 HO2 HB1 HB2 H0 H1 HN0 HN1 HS0 HS1 qa1 qa2 qb1 qb2 z1 z2
        go_wp2_with (fail)
        refine HZS.out.mono ?_
        rintro e w3 ⟨gk, gl, rfl, h1, h2, h3, h4, hb3⟩
        have HEA := hid (EAt_of h3 h4)
        have lgk := h3.lt
        have lgl := h4.lt
        have HK3 := hid h3
        have HL3 := hid h4
        have HB3 := hid hb3
        have z3 := hb3.size
        have HLC := hid (lcs_any p1 p2 d1 d2 aa bb w3 (by omega) (by omega) (SA.out.below hb3) (SB.out.below hb3))
        have hlen : (lay aa bb (shortestOps aa bb) 0 0).length ≤ 60000 := by
          rw [lay_length]
          have h1 := play_cnt aa bb _ 0 0 _ (My.shortest_plays aa bb)
          have h2 := len_cnt (shortestOps aa bb)
          simp only [Nat.zero_add, Prod.mk.injEq] at h1
          omega
        rw [lay_length] at hlen ⊢
        clear h1 h2 h3 h4 hb3 HZS
        obtain ⟨M, hM⟩ : ∃ M, (shortestOps aa bb).length = M := ⟨_, rfl⟩
        have HM := hid hM
        rw [hM] at hlen ⊢
        clear hM
        go_wp2_with (fail)
        refine HLC.out.mono ?_
        rintro e w4 ⟨rfl, hb4⟩
        have HB4 := hid hb4
        have z4 := hb4.size
        have HW4 := hid (HW2.out.trans ((HB3.out.mono zw).trans (hb4.mono (by omega))))
        have HK4 := hid (HK3.out.below hb4 lgk)
        have HL4 := hid (HL3.out.below hb4 lgl)
        have SA4 := hid (SA.out.below (HB3.out.trans (hb4.mono z3)))
        have SB4 := hid (SB.out.below (HB3.out.trans (hb4.mono z3)))
        clear hb4 HLC HK3 HL3 SA SB HB3 HB4 HW2
        have hDq := My.D_eq aa bb
        have hL1 := My.L_le_i aa bb aa.length bb.length
        have hL2 := My.L_le_j aa bb aa.length bb.length
        obtain ⟨lc, hlc⟩ : ∃ lc, L aa bb aa.length bb.length = lc := ⟨_, rfl⟩
        have HLCE := hid hlc
        rw [hlc] at hL1 hL2 hDq ⊢
        clear hlc
        by_cases hD : D aa bb ≤ 1000
        · have hd1 : (aa.length : Int) + bb.length - 2 * lc ≤ 1000 := by omega
          have HWK := hid (walks_any gk M gl M p1 p2 d1 d2 aa bb (shortestOps aa bb) w4 (by omega) (by omega) (by rw [HM.out]; omega) (My.shortest_plays aa bb) (KAt_of (EAt_of HK4.out HL4.out)) (LAt_of (EAt_of HK4.out HL4.out)) SA4.out SB4.out M HM.out)
          have HCH := hid (fun n => changes_any gk M (shortestOps aa bb) (w4.drewN n) (by rw [HM.out]; omega) (KAt_of (EAt_of HK4.out HL4.out)))
          have HCN := hid (show (((shortestOps aa bb).countP (fun o => o != 32) : Nat) : Int) = (aa.length : Int) + bb.length - 2 * lc by
            have h1 := play_changes aa bb _ 0 0 _ (My.shortest_plays aa bb)
            have h2 := (My.shortest_play aa bb hD).2
            rw [HLCE.out] at h2
            simp only at h1
            omega)
          rw [HM.out] at HCH
          clear hDq
          go_wp2_with (fail)
          refine HWK.out.mono ?_
          rintro e w5 ⟨rfl, n5, rfl⟩
          go_wp2_with (fail)
          refine (HCH.out n5).mono ?_
          rintro e w5 ⟨rfl, rfl⟩
          rw [HCN.out]
          have hfin : ((aa.length : Int) + bb.length - 2 * lc == (aa.length : Int) + bb.length - 2 * lc) = true := by simp
          go_wp2_with (fail)
          go_ret
          exact ⟨rfl, below_drewN HW4.out n5⟩
        · have hd1 : ¬ (aa.length : Int) + bb.length - 2 * lc ≤ 1000 := by omega
          have hso : shortestOps aa bb = List.replicate 0 32 ++ (List.replicate aa.length 45 ++ (List.replicate bb.length 43 ++ List.replicate 0 32)) := by
            unfold My.shortestOps; rw [if_neg hD]; simp
          have HBLK := hid (block_any gk M gl M p1 p2 d1 d2 0 0 aa.length bb.length M aa bb w4 (by omega) (by omega) (by omega) (by omega) (by rw [← HM.out, hso]; simp) (by rw [← eblk_lay, ← hso]; exact EAt_of HK4.out HL4.out) SA4.out SB4.out)
          clear hDq hso
          go_wp2_with (fail)
          refine HBLK.out.mono ?_
          rintro e w5 ⟨rfl, n5, rfl⟩
          go_wp2_with (fail)
          go_ret
          exact ⟨rfl, below_drewN HW4.out n5⟩
    · have hnl : ¬ aa.length ≤ 1024 ∨ (aa.length ≤ 1024 ∧ ¬ bb.length ≤ 1024) := by omega
      clear h4
      rcases hnl with h | ⟨h, h'⟩
      all_goals
        go_wp2_with (fail)
        go_ret
        exact ⟨rfl, Below.refl _ _⟩
end Go.Proofs.Qxb6603052a
