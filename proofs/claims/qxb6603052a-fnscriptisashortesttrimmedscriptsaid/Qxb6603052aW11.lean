/-
  THE WALK OF 'script'.
-/
import Derived.Test.Qxb6603052aW10
import Derived.Test.Qxb6603052aW6
import Derived.Test.Qxb6603052aScl
import Derived.Test.Qxb6603052aCp
import Derived.Test.Qxb6603052aNrm
namespace Go.Proofs.Qxb6603052a
open Go.RowKit
open My (eqAt pre suf shortestOps scriptOps norm)

theorem SAt_sub {w : World} {a : Option Addr} {ss : List ByteArray} (h : SAt w a ss) (ca lo hi : Nat) (hc : ss.length ≤ ca) : SAt w (if ca = lo then a else Option.map (fun x => x.add lo) a) ((ss.take hi).drop lo) := by
  intro i hl
  simp only [List.length_drop, List.length_take] at hl
  obtain ⟨b, off, rfl, hcell⟩ := h (lo + i) (by omega)
  refine ⟨b, off + lo, ?_, ?_⟩
  · rw [if_neg (by omega)]; simp [Addr.add_lit]
  · rw [Nat.add_assoc, hcell]; simp

theorem shortest_n (a b : Option Addr) (ca cbb n m : Nat) (aa bb : List ByteArray) (w : World) (hn : aa.length = n) (hm : bb.length = m) (hla : n ≤ 8192) (hlb : m ≤ 8192) (ha : SAt w a aa) (hb : SAt w b bb) :
    Calls Try.prog 19 #[.slice a n ca, .slice b m cbb] w (Eds w (lay aa bb (shortestOps aa bb) 0 0)) := by
  subst hn hm; exact shortest_any a b ca cbb aa bb w hla hlb ha hb

theorem cf19 (vs : Array Value) (w : World) : (callFunc 19 vs).run Try.prog w = .ok (.enter 19 vs) w := by kernel_rfl

theorem undrew {B : Nat} {w w' : World} (h : Below B w.drew w') : Below B w w' := ⟨h.os, h.tape, h.output, h.size, h.block⟩
theorem wr64 (x : Int) (h1 : -1000000 ≤ x) (h2 : x ≤ 1000000) : IntKind.i64.wrap x = x := by rw [IntKind.wrap_i64]; omega

theorem shortest_len (aa bb : List ByteArray) : (shortestOps aa bb).length ≤ aa.length + bb.length := by
  have h1 := play_cnt aa bb _ 0 0 _ (My.shortest_plays aa bb)
  have h2 := len_cnt (shortestOps aa bb)
  simp only [Nat.zero_add, Prod.mk.injEq] at h1
  omega

theorem u8_eq' (o d : UInt8) : (((o.toNat : Nat) : Int) == ((d.toNat : Nat) : Int)) = decide (o = d) := by
  by_cases h : o = d
  · subst h; simp
  · rw [decide_eq_false h]
    apply beq_eq_false_iff_ne.2
    intro e
    exact h (UInt8.toNat.inj (by omega))

set_option maxHeartbeats 8000000 in
set_option maxRecDepth 100000 in
theorem script_any (a b : Option Addr) (ca cbb : Nat) (aa bb : List ByteArray) (w : World) (hla : aa.length ≤ 8192) (hlb : bb.length ≤ 8192) (hca : aa.length ≤ ca) (hcb : bb.length ≤ cbb) (hma : ca ≤ maxLen) (hmb : cbb ≤ maxLen) (ha : SAt w a aa) (hb : SAt w b bb) :
    Calls Try.prog 20 #[.slice a aa.length ca, .slice b bb.length cbb] w (Eds w (lay aa bb (norm (scriptOps aa bb) 0 0) 0 0)) := by
  have HA := hid ha
  have HB := hid hb
  clear ha hb
  unfold maxLen at hma hmb
  go_enter Try.func20, Try.ntmps20
  go_wp2
  go_loopg [5] aa.length (fun gm pv wr => ∃ p : Nat, gm = aa.length - p ∧ pv = .int .i64 p ∧ p ≤ aa.length ∧ p ≤ bb.length ∧ (∀ i, i < p → eqAt aa bb i i = true) ∧ ∃ n, wr = w.drewN n)
  case atStart => exact ⟨0, rfl, rfl, by omega, by omega, fun i hi => by omega, 0, rfl⟩
  case round =>
    obtain ⟨p, rfl, rfl, hp1, hp2, hpe, n, rfl⟩ := hrel
    have HPE := hid hpe
    clear hpe
    generalize hS : eqAt aa bb p p = S
    have HS := hid hS
    clear hS
    go_wp2
    go_cut [38] (fun t wc => t = .bool S ∧ ∃ n, wc = w.drewN n)
    case first =>
      by_cases gx : p < aa.length
      · by_cases gy : p < bb.length
        · obtain ⟨ba, oa, rfl, hca'⟩ := HA.out p gx
          obtain ⟨bb', ob, rfl, hcb'⟩ := HB.out p gy
          have gx' : (p : Int) < aa.length := by omega
          have gy' : (p : Int) < bb.length := by omega
          have HE := hid (show S = (aa[p].toList == bb[p].toList) by rw [← HS.out, eqAt_bytes gx gy])
          go_quiet (fail)
          go_wp2
          go_meet
          exact ⟨by rw [HE.out], n + nq, by simp⟩
        · have HE := hid (show S = false by rw [← HS.out]; apply Bool.eq_false_iff.2; intro hc; have := My.eqAt_lt hc; omega)
          have gx' : (p : Int) < aa.length := by omega
          have gy' : decide ((p : Int) < bb.length) = false := by simpa using gy
          go_quiet (fail)
          go_wp2
          go_meet
          exact ⟨by rw [HE.out], n + nq, by simp⟩
      · have HE := hid (show S = false by rw [← HS.out]; apply Bool.eq_false_iff.2; intro hc; have := My.eqAt_lt hc; omega)
        have gx' : decide ((p : Int) < aa.length) = false := by simpa using gx
        go_quiet (fail)
        go_wp2
        go_meet
        exact ⟨by rw [HE.out], n + nq, by simp⟩
    case rest =>
      obtain ⟨rfl, nq, rfl⟩ := hcut
      cases hSS : S with
      | true =>
        have hss := HS.out.trans hSS
        have hlt := My.eqAt_lt hss
        have HPE2 := hid (show ∀ i, i < p + 1 → eqAt aa bb i i = true from fun i hi => by
          by_cases e : i < p
          · exact HPE.out i e
          · obtain rfl : i = p := by omega
            exact hss)
        clear hss hSS HPE HS
        go_wp2
        go_roundg (aa.length - (p + 1))
        case measure => omega
        case rel => exact ⟨p + 1, rfl, by go_num, by omega, by omega, HPE2.out, _, rfl⟩
      | false =>
        have HP := hid (My.pre_unique aa bb p HPE.out (HS.out.trans hSS))
        clear hSS HS HPE
        go_wp2
        go_loopg [6] aa.length (fun gm sv wr => ∃ s : Nat, gm = aa.length - s ∧ sv = .int .i64 s ∧ s ≤ aa.length - p ∧ s ≤ bb.length - p ∧ (∀ i, i < s → i < aa.length - p ∧ i < bb.length - p ∧ eqAt aa bb (aa.length - 1 - i) (bb.length - 1 - i) = true) ∧ ∃ n, wr = w.drewN n)
        case atStart => exact ⟨0, rfl, rfl, by omega, by omega, fun i hi => by omega, _, rfl⟩
        case round =>
          obtain ⟨s, rfl, rfl, hs1, hs2, hse, n, rfl⟩ := hrel
          have HSE := hid hse
          clear hse
          generalize hS : decide (s < aa.length - p ∧ s < bb.length - p ∧ eqAt aa bb (aa.length - 1 - s) (bb.length - 1 - s) = true) = S
          have HS := hid hS
          clear hS
          go_wp2
          go_cut [73] (fun t wc => t = .bool S ∧ ∃ n, wc = w.drewN n)
          case first =>
            by_cases gx : s < aa.length - p
            · by_cases gy : s < bb.length - p
              · obtain ⟨ba, oa, rfl, hca'⟩ := HA.out (aa.length - 1 - s) (by omega)
                obtain ⟨bb', ob, rfl, hcb'⟩ := HB.out (bb.length - 1 - s) (by omega)
                have gx' : (s : Int) < (aa.length : Int) - p := by omega
                have gy' : (s : Int) < (bb.length : Int) - p := by omega
                have HE := hid (show S = (aa[aa.length - 1 - s].toList == bb[bb.length - 1 - s].toList) by
                  rw [← HS.out, ← eqAt_bytes (by omega) (by omega)]
                  simp [gx, gy])
                go_quiet (fail)
                go_wp2
                go_meet
                exact ⟨by rw [HE.out], n + nq, by simp⟩
              · have HE := hid (show S = false by rw [← HS.out]; exact decide_eq_false (by omega))
                have gx' : (s : Int) < (aa.length : Int) - p := by omega
                have gy' : decide ((s : Int) < (bb.length : Int) - p) = false := decide_eq_false (by omega)
                go_quiet (fail)
                go_wp2
                go_meet
                exact ⟨by rw [HE.out], n + nq, by simp⟩
            · have HE := hid (show S = false by rw [← HS.out]; exact decide_eq_false (by omega))
              have gx' : decide ((s : Int) < (aa.length : Int) - p) = false := decide_eq_false (by omega)
              go_quiet (fail)
              go_wp2
              go_meet
              exact ⟨by rw [HE.out], n + nq, by simp⟩
          case rest =>
            obtain ⟨rfl, nq, rfl⟩ := hcut
            cases hSS : S with
            | true =>
              have hss := of_decide_eq_true (HS.out.trans hSS)
              have HSE2 := hid (show ∀ i, i < s + 1 → i < aa.length - p ∧ i < bb.length - p ∧ eqAt aa bb (aa.length - 1 - i) (bb.length - 1 - i) = true from fun i hi => by
                by_cases e : i < s
                · exact HSE.out i e
                · obtain rfl : i = s := by omega
                  exact hss)
              obtain ⟨hss1, hss2, _⟩ := hss
              clear hSS HSE HS
              go_wp2
              go_roundg (aa.length - (s + 1))
              case measure => omega
              case rel => exact ⟨s + 1, rfl, by go_num, by omega, by omega, HSE2.out, _, rfl⟩
            | false =>
              have HSU := hid (My.suf_unique aa bb p s HSE.out (of_decide_eq_false (HS.out.trans hSS)))
              clear hSS HS HSE
              go_wp2_with (fail)
              go_loopg [7, 80] p (fun gm ev tv wr => ∃ t : Nat, gm = p - t ∧ t ≤ p ∧ tv = .int .i64 t ∧ ERow wr w.heap.size ev (lay aa bb (List.replicate t 32) 0 0) ∧ Below w.heap.size w wr)
              case atStart => exact ⟨0, rfl, by omega, rfl, ERow.nil _ _, below_drewN (Below.refl _ w) _⟩
              case round =>
                obtain ⟨t, rfl, ht, rfl, hE, hB⟩ := hrel
                have HE := hid hE
                have HBl := hid hB
                have z1 := hB.size
                by_cases hlt : t < p
                · have hlt2 : t < aa.length := by omega
                  obtain ⟨ba, oa, rfl, hca2⟩ := (HA.out.below hB) t hlt2
                  have HE2 := hid (fun o => HE.out.below ((Below.refl _ wr).alloc (Nat.le_refl _) o))
                  have HSR := hid (ESrc.one wr 32 aa[t] 32 rfl)
                  have HLEN := hid (show (lay aa bb (List.replicate t 32) 0 0).length + 1 ≤ 65536 by rw [lay_length]; simp; omega)
                  have hlt1 : (t : Int) < p := by omega
                  clear hE hB
                  go_wp2_with (at_builtin; refine wpList_appE rfl (.tmp 84) (.tmp 87) rfl w.heap.size u7 _ _ _ rfl rfl (HE2.out _) HSR.out HLEN.out (by simp; omega) ?_; intro v1 w1 hn1 hg1 hb1; have HN1 := hid hn1; have HB1 := hid hb1; clear hn1 hg1 hb1)
                  go_roundg (p - (t + 1))
                  case measure => omega
                  case rel =>
                    refine ⟨t + 1, rfl, by omega, by go_num, ?_, (HBl.out.alloc z1 _).trans HB1.out⟩
                    have h := HN1.out
                    rwa [← lay_snocA (by decide) (by rw [cntA_rep, if_neg (by decide)]) hlt2, ← List.replicate_succ'] at h
                · have hlt1 : ¬ (t : Int) < p := by omega
                  obtain rfl : t = p := by omega
                  clear hE hB hlt
                  have hpp : t + s ≤ aa.length ∧ t + s ≤ bb.length := by omega
                  have HMID := hid (show lay ((aa.take (aa.length - s)).drop t) ((bb.take (bb.length - s)).drop t) (shortestOps ((aa.take (aa.length - s)).drop t) ((bb.take (bb.length - s)).drop t)) 0 0 = lay aa bb (shortestOps ((aa.take (aa.length - s)).drop t) ((bb.take (bb.length - s)).drop t)) t t from
                    lay_mid aa bb _ _ t t (fun i hi => ln_mid aa t s i hi) (fun i hi => ln_mid bb t s i hi) _ 0 0 _ (My.shortest_plays _ _))
                  obtain ⟨hpp1, hpp2⟩ := hpp
                  obtain ⟨w2, hw2⟩ : ∃ w2, w2 = wr := ⟨_, rfl⟩
                  subst hw2
                  go_wp2_with (fail)
                  go_cut [7] (fun ov wc => ERow wc w.heap.size ov (lay aa bb (List.replicate t 32 ++ shortestOps ((aa.take (aa.length - s)).drop t) ((bb.take (bb.length - s)).drop t)) 0 0) ∧ Below w.heap.size w wc)
                  case first =>
                    have q1 := wr64 ((aa.length : Int) - s) (by omega) (by omega)
                    have q2 := wr64 ((bb.length : Int) - s) (by omega) (by omega)
                    have q3 : (0 : Int) ≤ (aa.length : Int) - s := by omega
                    have q4 : (0 : Int) ≤ (bb.length : Int) - s := by omega
                    have q5 : (aa.length : Int) - s ≤ ca := by omega
                    have q6 : (bb.length : Int) - s ≤ cbb := by omega
                    have q7 : (t : Int) ≤ (aa.length : Int) - s := by omega
                    have q8 : (t : Int) ≤ (bb.length : Int) - s := by omega
                    have sa := SAt_sub (HA.out.below HBl.out) ca t (aa.length - s) hca
                    have sb := SAt_sub (HB.out.below HBl.out) cbb t (bb.length - s) hcb
                    obtain ⟨a', ha'⟩ : ∃ a', (if ca = t then a else Option.map (fun x => x.add t) a) = a' := ⟨_, rfl⟩
                    obtain ⟨b', hb'⟩ : ∃ b', (if cbb = t then b else Option.map (fun x => x.add t) b) = b' := ⟨_, rfl⟩
                    rw [ha'] at sa
                    rw [hb'] at sb
                    have HQ := hid (shortest_n a' b' (ca - t) (cbb - t) (aa.length - s - t) (bb.length - s - t) ((aa.take (aa.length - s)).drop t) ((bb.take (bb.length - s)).drop t) w2.drew (by simp) (by simp) (by omega) (by omega) sa sb)
                    clear sa sb
                    have hln := shortest_len ((aa.take (aa.length - s)).drop t) ((bb.take (bb.length - s)).drop t)
                    simp only [List.length_drop, List.length_take] at hln
                    rw [HMID.out] at HQ
                    generalize shortestOps ((aa.take (aa.length - s)).drop t) ((bb.take (bb.length - s)).drop t) = so at *
                    have hln2 : so.length ≤ 32768 := by omega
                    clear hln HMID
                    go_region_law (first
                      | (refine step_call rfl 19 [.tmp 97, .tmp 104] #[22, 22] ?hop _ ?hev (cf19 _ _) _ HQ.out ?_
                         case hop => exact rfl
                         case hev => go_simp
                         rintro e w3 ⟨v2, rfl, ho2, hb2⟩
                         have HB2 := hid (undrew hb2)
                         have HOW := hid (HE.out.below (undrew hb2))
                         have HSR := hid ho2.src
                         have hs2 : w2.heap.size ≤ w3.heap.size := hb2.size
                         clear ho2 hb2
                         refine ⟨_, rfl, ?_⟩)
                      | (refine step_appE rfl (.tmp 90) (.tmp 105) rfl w.heap.size u7 _ _ _ rfl rfl HOW.out HSR.out ?_ ?_ ?_
                         · rw [lay_length, lay_length]; simp; omega
                         · omega
                         intro v3 w4 ho3 hg3 hb3
                         have HO3 := hid ho3
                         have HG3 := hid hb3
                         clear ho3 hg3 hb3))
                    go_wp2
                    go_meet
                    refine ⟨?_, (HBl.out.trans (HB2.out.mono z1)).trans HG3.out⟩
                    have h := HO3.out
                    rw [lay_append, Nat.zero_add, Nat.zero_add, cntA_rep, cntB_rep, if_neg (by decide), if_neg (by decide)]
                    exact h
                  case rest =>
                    obtain ⟨hEc, hBc⟩ := hcut
                    have hso := play_cnt _ _ _ 0 0 _ (My.shortest_plays ((aa.take (aa.length - s)).drop t) ((bb.take (bb.length - s)).drop t))
                    have hln := shortest_len ((aa.take (aa.length - s)).drop t) ((bb.take (bb.length - s)).drop t)
                    simp only [List.length_drop, List.length_take, Nat.zero_add, Prod.mk.injEq] at hln hso
                    obtain ⟨so, hsoe⟩ : ∃ so, shortestOps ((aa.take (aa.length - s)).drop t) ((bb.take (bb.length - s)).drop t) = so := ⟨_, rfl⟩
                    rw [hsoe] at hEc hso hln
                    have HSO := hid hsoe
                    have HcA := hid (show cntA (List.replicate t 32 ++ so) = aa.length - s by rw [cntA_append, cntA_rep, if_neg (by decide)]; omega)
                    have hsl : so.length ≤ 32768 := by omega
                    have HEc := hid hEc
                    have HBc := hid hBc
                    clear hEc hBc hso hln hsoe HMID HE HBl
                    obtain ⟨w5, hw5⟩ : ∃ w5, w5 = wc := ⟨_, rfl⟩
                    subst hw5
                    have sd := SAt_sub HA.out ca (aa.length - s) aa.length hca
                    rw [List.take_length] at sd
                    have HSD := hid sd
                    clear sd
                    go_upto_region 14 with (fail)
                    go_cut [112, 113, 114] (fun sv lv tv wc => ∃ a2 c2, sv = .slice a2 s c2 ∧ lv = .int .i64 s ∧ tv = .int .i64 0 ∧ SAt w a2 (aa.drop (aa.length - s)) ∧ w5 = wc)
                    case first =>
                      have e1 : aa.length - (aa.length - s) = s := by omega
                      by_cases hcz : ca = aa.length - s
                      · have sd := HSD.out
                        rw [if_pos hcz] at sd
                        have HSD2 := hid sd
                        clear sd
                        go_wp2_with (fail)
                        go_meet
                        exact ⟨a, _, rfl, rfl, rfl, HSD2.out, rfl⟩
                      · have sd := HSD.out
                        rw [if_neg hcz] at sd
                        have HSD2 := hid sd
                        clear sd
                        go_wp2_with (fail)
                        go_meet
                        exact ⟨_, _, rfl, rfl, rfl, HSD2.out, rfl⟩
                    case rest =>
                      obtain ⟨a2, c2, rfl, rfl, rfl, sd, rfl⟩ := hcut
                      have HS2 := hid sd
                      clear sd HSD
                      go_wp2_with (fail)
                      go_loopg [7, 114] s (fun gm ev tv wr => ∃ u : Nat, gm = s - u ∧ u ≤ s ∧ tv = .int .i64 u ∧ ERow wr w.heap.size ev (lay aa bb (List.replicate t 32 ++ so ++ List.replicate u 32) 0 0) ∧ Below w.heap.size w wr)
                      case atStart => exact ⟨0, rfl, by omega, rfl, by simpa using HEc.out, HBc.out⟩
                      case round =>
                        obtain ⟨u, rfl, hu, rfl, hE, hB⟩ := hrel
                        have HE := hid hE
                        have HBl := hid hB
                        have z1 := hB.size
                        by_cases hlt : u < s
                        · have hlt2 : aa.length - s + u < aa.length := by omega
                          obtain ⟨ba, oa, rfl, hca2⟩ := (HS2.out.below hB) u (by simp; omega)
                          rw [List.getElem_drop] at hca2
                          have HSR := hid (ESrc.one wr 32 aa[aa.length - s + u] 32 rfl)
                          have HE2 := hid (fun o => HE.out.below ((Below.refl _ wr).alloc (Nat.le_refl _) o))
                          have HLEN := hid (show (lay aa bb (List.replicate t 32 ++ so ++ List.replicate u 32) 0 0).length + 1 ≤ 65536 by rw [lay_length]; simp; omega)
                          have HSN := hid (show lay aa bb (List.replicate t 32 ++ so ++ List.replicate (u + 1) 32) 0 0 = lay aa bb (List.replicate t 32 ++ so ++ List.replicate u 32) 0 0 ++ [(32, aa[aa.length - s + u])] by
                            rw [List.replicate_succ', ← List.append_assoc]
                            exact lay_snocA (by decide) (by rw [cntA_append, HcA.out, cntA_rep, if_neg (by decide)]) hlt2)
                          obtain ⟨sx, hsx⟩ : ∃ sx, aa[aa.length - s + u] = sx := ⟨_, rfl⟩
                          rw [hsx] at hca2 HSR HSN
                          have hlt1 : (u : Int) < s := by omega
                          clear hE hB hsx
                          go_wp2_with (at_builtin; refine wpList_appE rfl (.tmp 118) (.tmp 121) rfl w.heap.size u7 _ _ _ rfl rfl (HE2.out _) HSR.out HLEN.out (by simp; omega) ?_; intro v1 w1 hn1 hg1 hb1; have HN1 := hid hn1; have HB1 := hid hb1; clear hn1 hg1 hb1)
                          go_roundg (s - (u + 1))
                          case measure => omega
                          case rel =>
                            refine ⟨u + 1, rfl, by omega, by go_num, ?_, (HBl.out.alloc z1 _).trans HB1.out⟩
                            rw [HSN.out]; exact HN1.out
                        · have hlt1 : ¬ (u : Int) < s := by omega
                          obtain rfl : u = s := by omega
                          clear hE hB hlt
                          obtain ⟨E0, hE0⟩ : ∃ E0, lay aa bb (List.replicate t 32 ++ so ++ List.replicate u 32) 0 0 = E0 := ⟨_, rfl⟩
                          obtain ⟨N, hN⟩ : ∃ N, E0.length = N := ⟨_, rfl⟩
                          have hN2 : N ≤ 60000 := by rw [← hN, ← hE0, lay_length]; simp; omega
                          have HN := hid hN
                          have HFIN := hid (show normE E0 [] [] = lay aa bb (norm (scriptOps aa bb) 0 0) 0 0 by
                            rw [← normE_lay0 _ _ _ (script_ops aa bb), ← hE0]
                            congr 2
                            unfold scriptOps
                            rw [HP.out, HSU.out, HSO.out])
                          rw [hE0] at HE
                          obtain ⟨ea, ec, rfl, hec1, hec2⟩ := HE.out.form
                          rw [hN] at HE hec1 ⊢
                          unfold maxLen at hec2
                          clear hN hE0 HS2 HcA HSO HEc HBc HP HSU
                          obtain ⟨w6, hw6⟩ : ∃ w6, w6 = wr := ⟨_, rfl⟩
                          subst hw6
                          go_wp2_with (fail)
                          go_loopg [12] N (fun gm iv wr => ∃ (i : Nat) (done : List Ed), gm = N - i ∧ iv = .int .i64 i ∧ i ≤ N ∧ NDone E0 i done ∧ ERow wr w.heap.size (.slice ea N ec) (done ++ E0.drop i) ∧ Below w.heap.size w wr)
                          case atStart => exact ⟨0, [], rfl, rfl, by omega, NDone.zero _, HE.out, HBl.out⟩
                          case round =>
                            clear HE HBl z1
                            obtain ⟨i, done, rfl, rfl, hi, hD, hE, hB⟩ := hrel
                            have HD := hid hD
                            have HE := hid hE
                            have HBl := hid hB
                            have z1 := hB.size
                            clear hD
                            by_cases hlt3 : i < N
                            · obtain ⟨e, he⟩ : ∃ e, E0[i]? = some e := ⟨_, List.getElem?_eq_getElem (show i < E0.length by rw [HN.out]; exact hlt3)⟩
                              obtain ⟨g, rfl, hg, c0, c1⟩ := HE.out.cell i e (by rw [HD.out.get i (Nat.le_refl _)]; exact he)
                              have HEE := hid he
                              have hlt4 : (i : Int) < N := by omega
                              have q32 := u8_eq' e.1 32
                              clear he c1 hE hB
                              by_cases hk : e.1 = 32
                              · have k1 : (((e.1.toNat : Nat) : Int) == 32) = true := q32.trans (decide_eq_true hk)
                                have HK := hid (HD.out.keep HEE.out hk)
                                clear hk q32
                                go_wp2
                                go_roundg (N - (i + 1))
                                case measure => omega
                                case rel => exact ⟨i + 1, done ++ [e], rfl, by go_num, by omega, HK.out.1, by rw [HK.out.2]; exact HE.out, HBl.out⟩
                              · have k1 : (((e.1.toNat : Nat) : Int) == 32) = false := q32.trans (decide_eq_false hk)
                                have HNK := hid hk
                                clear hk q32
                                obtain ⟨w7, hw7⟩ : ∃ w7, w7 = wr := ⟨_, rfl⟩
                                subst hw7
                                go_wp2_with (fail)
                                go_loopg [13] (N - i) (fun gm mv wr => ∃ m : Nat, gm = N - m ∧ mv = .int .i64 m ∧ i ≤ m ∧ m ≤ N ∧ (∀ t, i ≤ t → t < m → ∀ e, E0[t]? = some e → e.1 ≠ 32) ∧ w7 = wr)
                                case atStart => exact ⟨i, rfl, rfl, Nat.le_refl _, by omega, fun t h1 h2 => by omega, rfl⟩
                                case round =>
                                  obtain ⟨m, rfl, rfl, hm1, hm2, hm3, rfl⟩ := hrel
                                  have HM3 := hid hm3
                                  clear hm3 c0 k1
                                  obtain ⟨S, hS⟩ : ∃ S : Bool, S = (decide (m < N) && ((E0.getD m edZ).1 != 32)) := ⟨_, rfl⟩
                                  have HS := hid hS
                                  clear hS
                                  go_upto_region 24 with (fail)
                                  go_cut [148] (fun bv wc => bv = .bool S ∧ w7 = wc)
                                  case first =>
                                    by_cases hmN : m < N
                                    · have hml : m < E0.length := by rw [HN.out]; exact hmN
                                      obtain ⟨e2, he2⟩ : ∃ e, E0[m]? = some e := ⟨_, List.getElem?_eq_getElem hml⟩
                                      obtain ⟨g2, hg2, _, c0, _⟩ := HE.out.cell m e2 (by rw [HD.out.get m hm1]; exact he2)
                                      simp only [Option.some.injEq, Addr.mk.injEq, and_true] at hg2
                                      subst hg2
                                      have q32 := u8_eq' e2.1 32
                                      have HGD := hid (show E0.getD m edZ = e2 by simp [List.getD, he2])
                                      have hmi : (m : Int) < N := by omega
                                      clear he2 hml
                                      by_cases hk : e2.1 = 32
                                      · have k1 : (((e2.1.toNat : Nat) : Int) == 32) = true := q32.trans (decide_eq_true hk)
                                        have HF := hid (show S = false by rw [HS.out, HGD.out, hk]; simp)
                                        clear hk q32
                                        go_wp2_with (fail)
                                        go_meet
                                        exact ⟨by rw [HF.out, bne, k1]; rfl, rfl⟩
                                      · have k1 : (((e2.1.toNat : Nat) : Int) == 32) = false := q32.trans (decide_eq_false hk)
                                        have HF := hid (show S = true by rw [HS.out, HGD.out, decide_eq_true hmN]; simp [hk])
                                        clear hk q32
                                        go_wp2_with (fail)
                                        go_meet
                                        exact ⟨by rw [HF.out, bne, k1]; rfl, rfl⟩
                                    · have hmi : ¬ (m : Int) < N := by omega
                                      have HF := hid (show S = false by rw [HS.out, decide_eq_false hmN]; rfl)
                                      go_wp2_with (fail)
                                      go_meet
                                      exact ⟨by rw [HF.out], rfl⟩
                                  case rest =>
                                    obtain ⟨rfl, rfl⟩ := hcut
                                    cases hSS : S with
                                    | true =>
                                      have hs := HS.out
                                      rw [hSS] at hs
                                      have hs2 := (Bool.and_eq_true_iff.1 hs.symm)
                                      have hmN := of_decide_eq_true hs2.1
                                      have HM4 := hid (show ∀ t, i ≤ t → t < m + 1 → ∀ e, E0[t]? = some e → e.1 ≠ 32 from fun t h1 h2 e he => by
                                        by_cases ht : t < m
                                        · exact HM3.out t h1 ht e he
                                        · obtain rfl : t = m := by omega
                                          have hx := hs2.2
                                          simp only [List.getD, he, Option.getD_some] at hx
                                          simpa using hx)
                                      clear hs hs2 hSS HS HM3
                                      go_wp2_with (fail)
                                      go_roundg (N - (m + 1))
                                      case measure => omega
                                      case rel => exact ⟨m + 1, rfl, by go_num, by omega, by omega, HM4.out, rfl⟩
                                    | false =>
                                      have hs := HS.out
                                      rw [hSS] at hs
                                      have HEM := hid (show ∀ e, E0[m]? = some e → e.1 = 32 from fun e he => by
                                        have hml := (List.getElem?_eq_some_iff.1 he).1
                                        rw [HN.out] at hml
                                        rw [decide_eq_true hml, Bool.true_and] at hs
                                        simp only [List.getD, he, Option.getD_some] at hs
                                        simpa using hs.symm)
                                      have him : i < m := by
                                        rcases Nat.lt_or_eq_of_le hm1 with h | h
                                        · exact h
                                        · exact absurd (HEM.out e (by rw [← h]; exact HEE.out)) HNK.out
                                      obtain ⟨L, hL⟩ : ∃ L, m - i = L := ⟨_, rfl⟩
                                      have hL1 : i + L ≤ m := by omega
                                      have hL2 : m ≤ i + L := by omega
                                      have hL0 : 0 < L := by omega
                                      have HL := hid hL
                                      clear hs hSS HS HNK HEE hm1 hL
                                      have hne : ¬ ec = i := by omega
                                      have hne2 : (i : Int) ≤ m := by omega
                                      have hne3 : (m : Int) ≤ ec := by omega
                                      go_wp2_with (fail)
                                      rw [HL.out]
                                      go_loopg [14, 15, 156] L (fun gm rv av tv wr => ∃ (q : Nat) (R A : List Ed), gm = L - q ∧ tv = .int .i64 q ∧ q ≤ L ∧ NRun E0 i q R A ∧ R.length + A.length ≤ q ∧ ERow wr w7.heap.size rv R ∧ ERow wr w7.heap.size av A ∧ Apart rv av ∧ Below w7.heap.size w7 wr)
                                      case atStart => exact ⟨0, [], [], rfl, rfl, by omega, NRun.zero _ _, by simp, ERow.nil _ _, ERow.nil _ _, Apart.nil _, Below.refl _ _⟩
                                      case round =>
                                        obtain ⟨q, R, A, rfl, rfl, hq, hNR, hRA, hR, hA, hAp, hB7⟩ := hrel
                                        have HNR := hid hNR
                                        have HR := hid hR
                                        have HAA := hid hA
                                        have HAP := hid hAp
                                        have HB7 := hid hB7
                                        have z7 := hB7.size
                                        have lgw : g < w7.heap.size := (HE.out.lt g rfl).2
                                        by_cases hqL : q < L
                                        · obtain ⟨e3, he3⟩ : ∃ e, E0[i + q]? = some e := ⟨_, List.getElem?_eq_getElem (show i + q < E0.length by rw [HN.out]; omega)⟩
                                          obtain ⟨g2, hg2, _, d0, d1⟩ := HE.out.cell (i + q) e3 (by rw [HD.out.get (i + q) (by omega)]; exact he3)
                                          simp only [Option.some.injEq, Addr.mk.injEq, and_true] at hg2
                                          subst hg2
                                          have f0 : wr.cell? ⟨g, i * 2 + q * 2, none⟩ = some (.int .u8 e3.1.toNat) := by rw [← Nat.add_mul, hB7.cell (p := ⟨g, (i + q) * 2, none⟩) lgw]; exact d0
                                          have f1 : wr.cell? ⟨g, i * 2 + q * 2 + 1, none⟩ = some (.string e3.2) := by rw [← Nat.add_mul, hB7.cell (p := ⟨g, (i + q) * 2 + 1, none⟩) lgw]; exact d1
                                          have q45 := u8_eq' e3.1 45
                                          have HE3 := hid he3
                                          have HK3 := hid (HM3.out (i + q) (by omega) (by omega) e3 he3)
                                          have hqi : (q : Int) < L := by omega
                                          clear d0 d1 he3 hNR hR hA hAp hB7
                                          have HSR := hid (show ESrc ((wr.alloc (.cells #[.int .u8 (e3.1.toNat : Int), .string e3.2] 40)).alloc (.cells #[.int .u8 (e3.1.toNat : Int), .string e3.2] 40)) (.slice (some ⟨wr.heap.size + 1, 0, none⟩) 1 1) [e3] by
                                            have := ESrc.one (wr.alloc (.cells #[.int .u8 (e3.1.toNat : Int), .string e3.2] 40)) e3.1 e3.2 _ rfl
                                            simpa using this)
                                          have HR2 := hid (fun o1 o2 => HR.out.below (((Below.refl _ wr).alloc (Nat.le_refl _) o1).alloc (by simp) o2))
                                          have HA2 := hid (fun o1 o2 => HAA.out.below (((Below.refl _ wr).alloc (Nat.le_refl _) o1).alloc (by simp) o2))
                                          have HB8 := hid (fun o1 o2 => ((HB7.out.alloc z7 o1).alloc (by simp; omega) o2))
                                          by_cases hk : e3.1 = 45
                                          · have k1 : (((e3.1.toNat : Nat) : Int) == 45) = true := q45.trans (decide_eq_true hk)
                                            have HNX := hid (HNR.out.rem HE3.out hk)
                                            have HLEN := hid (show R.length + [e3].length ≤ 65536 by simp; omega)
                                            clear hk q45
                                            go_wp2_with (at_builtin; refine wpList_appE2 rfl (.tmp 163) (.tmp 165) rfl w7.heap.size u14 _ _ _ rfl rfl (HR2.out _ _) HSR.out HLEN.out (by simp; omega) u15 _ (HA2.out _ _) HAP.out ?_; intro v1 w1 hn1 hm1 hap1 hb1; have HN1 := hid hn1; have HM1 := hid hm1; have HAP1 := hid hap1; have HB1 := hid hb1; clear hn1 hm1 hap1 hb1)
                                            go_roundg (L - (q + 1))
                                            case measure => omega
                                            case rel => exact ⟨q + 1, R ++ [e3], A, rfl, by go_num, by omega, HNX.out, by simp; omega, HN1.out, HM1.out, HAP1.out, (HB8.out _ _).trans HB1.out⟩
                                          · have k1 : (((e3.1.toNat : Nat) : Int) == 45) = false := q45.trans (decide_eq_false hk)
                                            have HNX := hid (HNR.out.add HE3.out hk HK3.out)
                                            have HLEN := hid (show A.length + [e3].length ≤ 65536 by simp; omega)
                                            clear hk q45
                                            go_wp2_with (at_builtin; refine wpList_appE2 rfl (.tmp 167) (.tmp 169) rfl w7.heap.size u15 _ _ _ rfl rfl (HA2.out _ _) HSR.out HLEN.out (by simp; omega) u14 _ (HR2.out _ _) HAP.out.symm ?_; intro v1 w1 hn1 hm1 hap1 hb1; have HN1 := hid hn1; have HM1 := hid hm1; have HAP1 := hid hap1; have HB1 := hid hb1; clear hn1 hm1 hap1 hb1)
                                            go_roundg (L - (q + 1))
                                            case measure => omega
                                            case rel => exact ⟨q + 1, R, A ++ [e3], rfl, by go_num, by omega, HNX.out, by simp; omega, HM1.out, HN1.out, HAP1.out.symm, (HB8.out _ _).trans HB1.out⟩
                                        · have hqi : ¬ (q : Int) < L := by omega
                                          have hqm : i + q = m := by omega
                                          have HDN := hid (HD.out.run HNR.out (by rw [HN.out]; omega) (by rw [hqm]; exact HEM.out))
                                          have HSP := hid (HD.out.splice HNR.out)
                                          have HRAL := hid (show (R ++ A).length = q by have := HNR.out.1; simpa using this)
                                          have HQM := hid hqm
                                          rw [hqm] at HDN HSP
                                          clear hNR hR hA hAp hB7 hqm
                                          obtain ⟨w8, hw8⟩ : ∃ w8, w8 = wr := ⟨_, rfl⟩
                                          subst hw8
                                          go_upto_region 34 with (fail)
                                          go_cut [178] (fun _ wc => ERow wc w.heap.size (.slice (some ⟨g, 0, none⟩) N ec) (done ++ (R ++ A) ++ E0.drop m) ∧ Below w.heap.size w wc)
                                          case first =>
                                            have HRd := hid (show ERow w8.drew w7.heap.size u14 R from HR.out)
                                            have HAd := hid (show ESrc w8.drew u15 A from HAA.out.src)
                                            have HLEN := hid (show R.length + A.length ≤ 65536 by omega)
                                            have HPOS := hid (show R ++ A ≠ [] by intro h; have := HRAL.out; rw [h] at this; simp at this; omega)
                                            have hiN : (i : Int) ≤ N := by omega
                                            have hiN2 : (N : Int) ≤ ec := by omega
                                            have hiN3 : (i : Int) ≤ ec := by omega
                                            have zb : w7.heap.size ≤ w8.drew.heap.size := z7
                                            go_region_law (first
                                              | (refine step_appE rfl (.tmp 175) (.tmp 176) rfl w7.heap.size u14 _ _ _ rfl rfl HRd.out HAd.out HLEN.out zb ?_
                                                 intro v3 w9 ho3 hg3 hb3
                                                 have HO3 := hid ho3.src
                                                 have HB9 := hid ((HB7.out.drew).trans hb3)
                                                 have HE9 := hid (HE.out.below ((HB7.out.drew).trans hb3))
                                                 clear ho3 hg3 hb3)
                                              | (refine step_copyE rfl (.tmp 174) (.tmp 177) rfl w.heap.size g i N ec (N - i) (ec - i) _ _ (R ++ A) rfl rfl HE9.out HO3.out HPOS.out ?_ ?_ ?_
                                                 · rw [HRAL.out]; omega
                                                 · rw [HD.out.length, HRAL.out, HN.out]; omega
                                                 intro w10 ho4 hb4
                                                 have HO4 := hid ho4
                                                 have HB10 := hid ((HBl.out.trans (HB9.out.mono z1)).trans hb4)
                                                 clear ho4 hb4))
                                            go_wp2
                                            go_meet
                                            refine ⟨?_, HB10.out⟩
                                            rw [← HSP.out]; exact HO4.out
                                          case rest =>
                                            obtain ⟨hEc, hBc⟩ := hcut
                                            have HEc := hid hEc
                                            have HBc := hid hBc
                                            clear hEc hBc
                                            go_wp2_with (fail)
                                            go_roundg (N - m)
                                            case measure => omega
                                            case rel => exact ⟨m, done ++ (R ++ A), rfl, rfl, by omega, HDN.out, HEc.out, HBc.out⟩
                            · have hlt4 : ¬ (i : Int) < N := by omega
                              have HEND := hid (HD.out.end (by rw [HN.out]; omega))
                              clear hE hB
                              go_wp2
                              go_ret
                              exact ⟨_, rfl, by rw [← HFIN.out, ← HEND.out]; exact HE.out, HBl.out⟩
end Go.Proofs.Qxb6603052a
