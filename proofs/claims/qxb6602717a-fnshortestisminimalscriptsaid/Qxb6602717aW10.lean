/-
  THE WALK OF THE LAW FnShortestIsMinimalScript.
-/
import Derived.Test.Qxb6602717aWB
import Derived.Test.Qxb6602717aW7
import Derived.Test.Qxb6602717aW8
import Derived.Test.Qxb6602717aW9
namespace Go.Proofs.Qxb6602717a
open Go.RowKit
open My (L D eqAt play stepO shortestOps)

theorem zzshortest_any (a b : Option Addr) (ca cbb : Nat) (aa bb : List ByteArray) (w : World) (hla : aa.length ≤ 8192) (hlb : bb.length ≤ 8192) (ha : SAt w a aa) (hb : SAt w b bb) :
    Calls Try.prog 12 #[.slice a aa.length ca, .slice b bb.length cbb] w (Ops w (shortestOps aa bb)) := by
  have HS := hid (shortest_any a b ca cbb aa bb w hla hlb ha hb)
  clear ha hb
  go_enter Try.func12, Try.ntmps12
  go_wp2_with (fail)
  refine HS.out.mono ?_
  rintro e w1 ⟨v1, rfl, ho1, hb1⟩
  have HO := hid ho1
  have HB := hid hb1
  clear ho1 hb1
  go_wp2_with (fail)
  go_ret
  exact ⟨_, rfl, HO.out, HB.out⟩

theorem map_ob (ops : List UInt8) : ops.map opV = (ops.map ob).map Value.string := by
  rw [List.map_map]; rfl

set_option maxHeartbeats 4000000 in
set_option maxRecDepth 100000 in
theorem minimal_any (a0 a1 : Option Addr) (c0 c1 : Nat) (aa bb : List ByteArray) (w : World) (hm0 : aa.length ≤ maxLen) (hm1 : bb.length ≤ maxLen)
    (hs0 : ∀ s ∈ aa, s.size ≤ maxLen) (hs1 : ∀ s ∈ bb, s.size ≤ maxLen) (ha0 : SAt w a0 aa) (ha1 : SAt w a1 bb)
    (hn0 : a0 = none → aa = [] ∧ c0 = 0) (hn1 : a1 = none → bb = [] ∧ c1 = 0) :
    Calls Try.prog 3 #[.slice a0 aa.length c0, .slice a1 bb.length c1] w (RetT w) := by
  have HBY := hid (bytes2_9 a0 a1 c0 c1 aa bb w hm0 hm1 hs0 hs1 ha0 ha1)
  have H0 := hid ha0
  have H1 := hid ha1
  have HS0 := hid hs0
  have HS1 := hid hs1
  have HN0 := hid hn0
  have HN1 := hid hn1
  unfold maxLen at hm0 hm1
  clear ha0 ha1 hs0 hs1 hn0 hn1
  go_enter Try.func3, Try.ntmps3
  go_wp2_with (fail)
  refine HBY.out.mono ?_
  rintro e w' ⟨b, rfl, rfl⟩
  clear HBY
  cases b with
  | false =>
    go_wp2_with (fail)
    go_ret
    exact ⟨rfl, Below.refl _ _⟩
  | true =>
    by_cases h4 : aa.length ≤ 4096 ∧ bb.length ≤ 4096
    · obtain ⟨l0, l1⟩ := h4
      go_wp2_with (fail)
      refine (addBytes_any 0 a0 c0 aa w (by omega) (by omega) (by omega) HS0.out H0.out).mono ?_
      rintro e w' ⟨t1, b1, t10, t11, rfl, rfl⟩
      cases b1 with
      | false =>
        go_wp2_with (fail)
        go_ret
        exact ⟨rfl, Below.refl _ _⟩
      | true =>
        go_wp2_with (fail)
        refine (addBytes_any t1 a1 c1 bb w t10 t11 (by omega) HS1.out H1.out).mono ?_
        rintro e w' ⟨t2, b2, t20, t21, rfl, rfl⟩
        cases b2 with
        | false =>
          go_wp2_with (fail)
          go_ret
          exact ⟨rfl, Below.refl _ _⟩
        | true =>
          go_wp2_with (fail)
          refine (clone_any a0 c0 aa w HN0.out (by omega) H0.out).mono ?_
          rintro e w1 ⟨v1, rfl, ho1, hb1⟩
          have HO1 := hid ho1
          have HB1 := hid hb1
          have z1 := hb1.size
          obtain ⟨p1, d1, rfl⟩ := own_form ho1
          clear ho1 hb1
          go_wp2_with (fail)
          refine (clone_any a1 c1 bb w1 HN1.out (by omega) (H1.out.below HB1.out)).mono ?_
          rintro e w2 ⟨v2, rfl, ho2, hb2⟩
          have HO2 := hid ho2
          have HB2 := hid hb2
          have z2 := hb2.size
          obtain ⟨p2, d2, rfl⟩ := own_form ho2
          clear ho2 hb2
          obtain ⟨pa, cpa, hv1, _, _, _, sa⟩ := owns_val (ownsRow_below HO1.out HB2.out (Nat.le_refl _))
          obtain ⟨pb, cpb, hv2, _, _, _, sb⟩ := owns_val HO2.out
          simp only [Value.slice.injEq, true_and] at hv1 hv2
          obtain ⟨rfl, rfl⟩ := hv1
          obtain ⟨rfl, rfl⟩ := hv2
          have SA := hid sa
          have SB := hid sb
          have HW2 := hid (show Below w.heap.size w w2 from HB1.out.trans (HB2.out.mono (by omega)))
          clear sa sb HO1 HO2 HB1 HB2 H0 H1 HN0 HN1 HS0 HS1
          have zw : w.heap.size ≤ w2.heap.size := by omega
          clear z1 z2
          go_wp2_with (fail)
          refine (zzshortest_any p1 p2 d1 d2 aa bb w2 (by omega) (by omega) SA.out SB.out).mono ?_
          rintro e w3 ⟨v3, rfl, ho3, hb3⟩
          have HB3 := hid hb3
          have z3 := hb3.size
          have hsl := shortest_len aa bb
          rw [map_ob] at ho3
          obtain ⟨po, cpo, rfl, hpo1, _, _, so⟩ := owns_val ho3
          obtain ⟨M, hM⟩ : ∃ M, (shortestOps aa bb).length = M := ⟨_, rfl⟩
          rw [hM]
          rw [hM] at hsl
          have HM := hid hM
          have SO := hid so
          have SA3 := hid (SA.out.below hb3)
          have SB3 := hid (SB.out.below hb3)
          clear ho3 hb3 hpo1 so hM SA SB
          go_wp2_with (fail)
          refine (lcs_any p1 p2 d1 d2 aa bb w3 (by omega) (by omega) SA3.out SB3.out).mono ?_
          rintro e w4 ⟨rfl, hb4⟩
          have z4 := hb4.size
          have SO4 := hid (SO.out.below hb4)
          have SA4 := hid (SA3.out.below hb4)
          have SB4 := hid (SB3.out.below hb4)
          have HW := hid (show Below w.heap.size w w4 from HW2.out.trans ((HB3.out.mono (by omega)).trans (hb4.mono (by omega))))
          have hDq := My.D_eq aa bb
          have HDQ := hid hDq
          have hL1 := My.L_le_i aa bb aa.length bb.length
          have hL2 := My.L_le_j aa bb aa.length bb.length
          obtain ⟨l, hl⟩ : ∃ l, L aa bb aa.length bb.length = l := ⟨_, rfl⟩
          rw [hl]
          rw [hl] at hL1 hL2 hDq
          have HLL := hid hl
          clear hb4 hl SO SA3 SB3 HB3 HW2
          by_cases hD : D aa bb ≤ 1000
          · have hp := My.shortest_play aa bb hD
            have hd1 : (aa.length : Int) + bb.length - 2 * l ≤ 1000 := by omega
            have HR := hid (replay_any po p1 p2 cpo d1 d2 M (shortestOps aa bb) aa bb w4 HM.out (by omega) (by omega) (by omega) SO4.out SA4.out SB4.out hp.1)
            have HC := hid hp.2
            clear hp hDq
            go_wp2_with (fail)
            refine HR.out.mono ?_
            rw [HC.out, HLL.out]
            rintro e w5 ⟨rfl, n5, rfl⟩
            have hbe : ((l : Int) == (l : Int)) = true := by simp
            go_wp2_with (fail)
            go_ret
            exact ⟨rfl, below_drewN HW.out _⟩
          · have hd1 : ¬ (aa.length : Int) + bb.length - 2 * l ≤ 1000 := by omega
            have hops : shortestOps aa bb = List.replicate aa.length 45 ++ List.replicate bb.length 43 := by unfold My.shortestOps; rw [if_neg hD]
            have hMM : aa.length + bb.length = M := by rw [← HM.out, hops]; simp
            have m1 : aa.length + bb.length ≤ M := by omega
            have m2 : M ≤ aa.length + bb.length := by omega
            have hne : ((M : Int) != (aa.length : Int) + bb.length) = false := by simp; omega
            have hget : ∀ t, t < M → (shortestOps aa bb)[t]? = some (if t < aa.length then 45 else 43) := by
              intro t ht
              rw [hops]
              by_cases c : t < aa.length
              · rw [List.getElem?_append_left (by simpa using c), if_pos c]; simp [c]
              · rw [List.getElem?_append_right (by simp; omega), if_neg c, List.getElem?_replicate, if_pos (by simp; omega)]
            have HGT := hid hget
            clear hget hMM hops hDq
            go_wp2_with (fail)
            go_loopg [13] M (fun gm tv wr => ∃ t : Nat, gm = M - t ∧ t ≤ M ∧ tv = .int .i64 t ∧ w4 = wr)
            case atStart => exact ⟨0, rfl, by omega, rfl, rfl⟩
            case round =>
              obtain ⟨t, rfl, ht, rfl, rfl⟩ := hrel
              by_cases hlt : t < M
              · have hlt1 : (t : Int) < M := by omega
                obtain ⟨bo, oo, rfl, hco⟩ := SO4.out t (by simp [HM.out]; exact hlt)
                have e1 : ((shortestOps aa bb).map ob)[t]'(by simp [HM.out]; exact hlt) = ob (if t < aa.length then 45 else 43) := by
                  have : ((shortestOps aa bb).map ob)[t]? = some (ob (if t < aa.length then 45 else 43)) := by rw [List.getElem?_map, HGT.out t hlt]; rfl
                  rw [List.getElem?_eq_getElem (by simp [HM.out]; exact hlt)] at this
                  exact Option.some.inj this
                rw [e1] at hco
                clear e1
                by_cases c : t < aa.length
                · rw [if_pos c] at hco
                  have c1 : (t : Int) < aa.length := by omega
                  have k1 : ((ob 45).toList == [45]) = true := by rw [ob_eq]; rfl
                  go_wp2_with (fail)
                  go_roundg (M - (t + 1))
                  case measure => omega
                  case rel => exact ⟨t + 1, rfl, by omega, by go_num, rfl⟩
                · rw [if_neg c] at hco
                  have c1 : ¬ (t : Int) < aa.length := by omega
                  have k1 : ((ob 43).toList == [43]) = true := by rw [ob_eq]; rfl
                  go_wp2_with (fail)
                  go_roundg (M - (t + 1))
                  case measure => omega
                  case rel => exact ⟨t + 1, rfl, by omega, by go_num, rfl⟩
              · have hlt1 : ¬ (t : Int) < M := by omega
                go_wp2_with (fail)
                go_ret
                exact ⟨rfl, HW.out⟩
    · have hnl : ¬ aa.length ≤ 4096 ∨ (aa.length ≤ 4096 ∧ ¬ bb.length ≤ 4096) := by omega
      clear h4
      rcases hnl with h | ⟨h, h'⟩
      all_goals
        go_wp2_with (fail)
        go_ret
        exact ⟨rfl, Below.refl _ _⟩
end Go.Proofs.Qxb6602717a
