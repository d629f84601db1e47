/-
  THE WALK OF 'script'.
-/
import Derived.Test.Qxb6602717aW4
import Derived.Test.Qxb6602717aPlain
namespace Go.Proofs.Qxb6602717a
open Go.RowKit
open My (F D L Vd sn same eqAt shortestOps back pre suf scriptOps)

theorem eqAt_bytes {aa bb : List ByteArray} {i j : Nat} (hi : i < aa.length) (hj : j < bb.length) : eqAt aa bb i j = (aa[i].toList == bb[j].toList) := by
  rw [My.eqAt_iff hi hj, bytes_eq]

theorem SAt.drewN {w : World} {a : Option Addr} {ss : List ByteArray} (h : SAt w a ss) (n : Nat) : SAt (w.drewN n) a ss := h

theorem SAt_sub {w : World} {a : Option Addr} {ss : List ByteArray} (h : SAt w a ss) (ca lo hi : Nat) (hc : ss.length ≤ ca) : SAt w (if ca = lo then a else Option.map (fun x => x.add lo) a) ((ss.take hi).drop lo) := by
  intro i hl
  simp only [List.length_drop, List.length_take] at hl
  obtain ⟨b, off, rfl, hcell⟩ := h (lo + i) (by omega)
  refine ⟨b, off + lo, ?_, ?_⟩
  · rw [if_neg (by omega)]; simp [Addr.add_lit]
  · rw [Nat.add_assoc, hcell]; simp

theorem shortest_n (a b : Option Addr) (ca cbb n m : Nat) (aa bb : List ByteArray) (w : World) (hn : aa.length = n) (hm : bb.length = m) (hla : n ≤ 8192) (hlb : m ≤ 8192) (ha : SAt w a aa) (hb : SAt w b bb) :
    Calls Try.prog 24 #[.slice a n ca, .slice b m cbb] w (Ops w (shortestOps aa bb)) := by
  subst hn hm; exact shortest_any a b ca cbb aa bb w hla hlb ha hb

theorem cf24 (vs : Array Value) (w : World) : (callFunc 24 vs).run Try.prog w = .ok (.enter 24 vs) w := by kernel_rfl

theorem back_len {aa bb : List ByteArray} (d : Nat) : ∀ k, Vd d k → (back aa bb d k).length ≤ (F aa bb d k).toNat + d := by
  induction d with
  | zero => intro k h; rw [My.back_zero]; simp
  | succ d ih =>
    intro k h
    rw [My.back_succ]
    have hs := My.sn_ge aa bb k (My.start (F aa bb d) d k)
    have hp := My.start_pos aa bb d k h
    rw [My.F_succ]
    rcases My.fromK_cases (F aa bb d) d k h with ⟨h1, h2, h3, _⟩ | ⟨h1, h2, h3, _⟩
    · have := ih _ h1
      rw [h2]
      simp only [List.length_append, List.length_replicate, List.length_cons]
      omega
    · have := ih _ h1
      rw [h2]
      have hp2 := My.F_pos aa bb d _ h1
      simp only [List.length_append, List.length_replicate, List.length_cons]
      omega

theorem shortest_len (aa bb : List ByteArray) : (shortestOps aa bb).length ≤ 2 * (aa.length + bb.length) := by
  unfold My.shortestOps
  split
  · have h1 := back_len (aa := aa) (bb := bb) (D aa bb) _ (My.Vd_D aa bb)
    have h2 := My.D_eq aa bb
    rw [My.F_D] at h1
    rw [List.length_reverse]
    omega
  · simp; omega

set_option maxHeartbeats 2000000 in
set_option maxRecDepth 100000 in
theorem script_any (a b : Option Addr) (ca cbb : Nat) (aa bb : List ByteArray) (w : World) (hla : aa.length ≤ 8192) (hlb : bb.length ≤ 8192) (hca : aa.length ≤ ca) (hcb : bb.length ≤ cbb) (hma : ca ≤ maxLen) (hmb : cbb ≤ maxLen) (ha : SAt w a aa) (hb : SAt w b bb) :
    Calls Try.prog 25 #[.slice a aa.length ca, .slice b bb.length cbb] w (Ops w (scriptOps aa bb)) := by
  have HA := hid ha
  have HB := hid hb
  clear ha hb
  unfold maxLen at hma hmb
  go_enter Try.func25, Try.ntmps25
  go_wp2
  go_loopg [5] aa.length (fun gm pv wr => ∃ p : Nat, gm = aa.length - p ∧ pv = .int .i64 p ∧ p ≤ aa.length ∧ p ≤ bb.length ∧ (∀ i, i < p → eqAt aa bb i i = true) ∧ ∃ n, wr = w.drewN n)
  case atStart => exact ⟨0, rfl, rfl, by omega, by omega, fun i hi => by omega, 0, rfl⟩
  case round =>
    obtain ⟨p, rfl, rfl, hp1, hp2, hpe, n, rfl⟩ := hrel
    have HPE := hid hpe
    clear hpe
    generalize hS : eqAt aa bb p p = S
    have HS := hid hS
    clear hS
    go_wp2
    go_cut [28] (fun t wc => t = .bool S ∧ ∃ n, wc = w.drewN n)
    case first =>
      by_cases gx : p < aa.length
      · by_cases gy : p < bb.length
        · obtain ⟨ba, oa, rfl, hca'⟩ := HA.out p gx
          obtain ⟨bb', ob, rfl, hcb'⟩ := HB.out p gy
          have gx' : (p : Int) < aa.length := by omega
          have gy' : (p : Int) < bb.length := by omega
          have HE := hid (show S = (aa[p].toList == bb[p].toList) by rw [← HS.out, eqAt_bytes gx gy])
          go_quiet (fail)
          go_wp2
          go_meet
          exact ⟨by rw [HE.out], n + nq, by simp⟩
        · have HE := hid (show S = false by rw [← HS.out]; apply Bool.eq_false_iff.2; intro hc; have := My.eqAt_lt hc; omega)
          have gx' : (p : Int) < aa.length := by omega
          have gy' : decide ((p : Int) < bb.length) = false := by simpa using gy
          go_quiet (fail)
          go_wp2
          go_meet
          exact ⟨by rw [HE.out], n + nq, by simp⟩
      · have HE := hid (show S = false by rw [← HS.out]; apply Bool.eq_false_iff.2; intro hc; have := My.eqAt_lt hc; omega)
        have gx' : decide ((p : Int) < aa.length) = false := by simpa using gx
        go_quiet (fail)
        go_wp2
        go_meet
        exact ⟨by rw [HE.out], n + nq, by simp⟩
    case rest =>
      obtain ⟨rfl, nq, rfl⟩ := hcut
      cases hSS : S with
      | true =>
        have hss := HS.out.trans hSS
        have hlt := My.eqAt_lt hss
        have HPE2 := hid (show ∀ i, i < p + 1 → eqAt aa bb i i = true from fun i hi => by
          by_cases e : i < p
          · exact HPE.out i e
          · obtain rfl : i = p := by omega
            exact hss)
        clear hss hSS HPE HS
        go_wp2
        go_roundg (aa.length - (p + 1))
        case measure => omega
        case rel => exact ⟨p + 1, rfl, by go_num, by omega, by omega, HPE2.out, _, rfl⟩
      | false =>
        have HP := hid (My.pre_unique aa bb p HPE.out (HS.out.trans hSS))
        clear hSS HS HPE
        go_wp2
        go_loopg [6] aa.length (fun gm sv wr => ∃ s : Nat, gm = aa.length - s ∧ sv = .int .i64 s ∧ s ≤ aa.length - p ∧ s ≤ bb.length - p ∧ (∀ i, i < s → i < aa.length - p ∧ i < bb.length - p ∧ eqAt aa bb (aa.length - 1 - i) (bb.length - 1 - i) = true) ∧ ∃ n, wr = w.drewN n)
        case atStart => exact ⟨0, rfl, rfl, by omega, by omega, fun i hi => by omega, _, rfl⟩
        case round =>
          obtain ⟨s, rfl, rfl, hs1, hs2, hse, n, rfl⟩ := hrel
          have HSE := hid hse
          clear hse
          generalize hS : decide (s < aa.length - p ∧ s < bb.length - p ∧ eqAt aa bb (aa.length - 1 - s) (bb.length - 1 - s) = true) = S
          have HS := hid hS
          clear hS
          go_wp2
          go_cut [63] (fun t wc => t = .bool S ∧ ∃ n, wc = w.drewN n)
          case first =>
            by_cases gx : s < aa.length - p
            · by_cases gy : s < bb.length - p
              · obtain ⟨ba, oa, rfl, hca'⟩ := HA.out (aa.length - 1 - s) (by omega)
                obtain ⟨bb', ob, rfl, hcb'⟩ := HB.out (bb.length - 1 - s) (by omega)
                have gx' : (s : Int) < (aa.length : Int) - p := by omega
                have gy' : (s : Int) < (bb.length : Int) - p := by omega
                have HE := hid (show S = (aa[aa.length - 1 - s].toList == bb[bb.length - 1 - s].toList) by
                  rw [← HS.out, ← eqAt_bytes (by omega) (by omega)]
                  simp [gx, gy])
                go_quiet (fail)
                go_wp2
                go_meet
                exact ⟨by rw [HE.out], n + nq, by simp⟩
              · have HE := hid (show S = false by rw [← HS.out]; exact decide_eq_false (by omega))
                have gx' : (s : Int) < (aa.length : Int) - p := by omega
                have gy' : decide ((s : Int) < (bb.length : Int) - p) = false := decide_eq_false (by omega)
                go_quiet (fail)
                go_wp2
                go_meet
                exact ⟨by rw [HE.out], n + nq, by simp⟩
            · have HE := hid (show S = false by rw [← HS.out]; exact decide_eq_false (by omega))
              have gx' : decide ((s : Int) < (aa.length : Int) - p) = false := decide_eq_false (by omega)
              go_quiet (fail)
              go_wp2
              go_meet
              exact ⟨by rw [HE.out], n + nq, by simp⟩
          case rest =>
            obtain ⟨rfl, nq, rfl⟩ := hcut
            cases hSS : S with
            | true =>
              have hss := of_decide_eq_true (HS.out.trans hSS)
              have HSE2 := hid (show ∀ i, i < s + 1 → i < aa.length - p ∧ i < bb.length - p ∧ eqAt aa bb (aa.length - 1 - i) (bb.length - 1 - i) = true from fun i hi => by
                by_cases e : i < s
                · exact HSE.out i e
                · obtain rfl : i = s := by omega
                  exact hss)
              obtain ⟨hss1, hss2, _⟩ := hss
              clear hSS HSE HS
              go_wp2
              go_roundg (aa.length - (s + 1))
              case measure => omega
              case rel => exact ⟨s + 1, rfl, by go_num, by omega, by omega, HSE2.out, _, rfl⟩
            | false =>
              have HSU := hid (My.suf_unique aa bb p s HSE.out (of_decide_eq_false (HS.out.trans hSS)))
              clear hSS HS HSE
              go_wp2_with (fail)
              refine (repeat_any w.heap.size 32 p _ (by omega) ((Blk.new (w.drewN nq) 31 [opV 32]).cell 0 (by simp))).mono ?_
              rintro e w1 ⟨v1, rfl, ho1, hb1⟩
              rw [List.length_replicate] at ho1
              have hB1 : Below w.heap.size w w1 := ((below_drewN (Below.refl _ w) nq).alloc (Nat.le_refl _) _).trans (hb1.mono (by simp))
              have HO1 := hid (ownsRow_base ho1 (show w.heap.size ≤ _ by simp))
              have HB1 := hid hB1
              clear ho1 hb1 hB1
              go_wp2_with (fail)
              go_cut [7] (fun ov wc => ∃ oo : List UInt8, oo = List.replicate p 32 ++ shortestOps ((aa.take (aa.length - s)).drop p) ((bb.take (bb.length - s)).drop p) ∧ wc.ownsRow w.heap.size 31 1 ov oo.length (oo.map opV) ∧ Below w.heap.size w wc)
              case first =>
                have q1 := wr64 ((aa.length : Int) - s) (by omega) (by omega)
                have q2 := wr64 ((bb.length : Int) - s) (by omega) (by omega)
                have q3 : (0 : Int) ≤ (aa.length : Int) - s := by omega
                have q4 : (0 : Int) ≤ (bb.length : Int) - s := by omega
                have q5 : (aa.length : Int) - s ≤ ca := by omega
                have q6 : (bb.length : Int) - s ≤ cbb := by omega
                have q7 : (p : Int) ≤ (aa.length : Int) - s := by omega
                have q8 : (p : Int) ≤ (bb.length : Int) - s := by omega
                have sa := SAt_sub (HA.out.below HB1.out) ca p (aa.length - s) hca
                have sb := SAt_sub (HB.out.below HB1.out) cbb p (bb.length - s) hcb
                obtain ⟨a', ha'⟩ : ∃ a', (if ca = p then a else Option.map (fun x => x.add p) a) = a' := ⟨_, rfl⟩
                obtain ⟨b', hb'⟩ : ∃ b', (if cbb = p then b else Option.map (fun x => x.add p) b) = b' := ⟨_, rfl⟩
                rw [ha'] at sa
                rw [hb'] at sb
                have HQ := hid (shortest_n a' b' (ca - p) (cbb - p) (aa.length - s - p) (bb.length - s - p) ((aa.take (aa.length - s)).drop p) ((bb.take (bb.length - s)).drop p) w1.drew (by simp) (by simp) (by omega) (by omega) sa sb)
                clear sa sb
                have hln := shortest_len ((aa.take (aa.length - s)).drop p) ((bb.take (bb.length - s)).drop p)
                simp only [List.length_drop, List.length_take] at hln
                generalize shortestOps ((aa.take (aa.length - s)).drop p) ((bb.take (bb.length - s)).drop p) = so at *
                have hln2 : so.length ≤ 32768 := by omega
                clear hln
                have hs1 := HB1.out.size
                go_region_law (first
                  | (refine step_call rfl 24 [.tmp 76, .tmp 83] #[22, 22] ?hop _ ?hev (cf24 _ _) _ HQ.out ?_
                     case hop => exact rfl
                     case hev => go_simp
                     rintro e w2 ⟨v2, rfl, ho2, hb2⟩
                     have HO2 := hid ho2
                     have HB2 := hid (undrew hb2)
                     have HOW := hid (ownsRow_below HO1.out (undrew hb2) (Nat.le_refl _))
                     have HSR := hid (owns_Src ho2)
                     have hs2 : w1.heap.size ≤ w2.heap.size := hb2.size
                     clear ho2 hb2
                     refine ⟨_, rfl, ?_⟩)
                  | (refine step_append1 rfl (.tmp 69) (.tmp 84) 27 rfl w.heap.size 31 (.string ⟨#[]⟩) 16 Try.underlying27 Try.info31 rfl v1 _ _ rfl HOW.out _ _ rfl HSR.out (op_one _) ?_ ?_ ?_ ?_
                     · simp [maxLen]; omega
                     · simp; omega
                     · omega
                     intro v3 w3 ho3 hg3
                     have HO3 := hid ho3
                     have HG3 := hid hg3
                     clear ho3 hg3))
                go_wp2
                go_meet
                refine ⟨_, rfl, ?_, ((HB1.out.trans (HB2.out.mono hs1)).grown HG3.out (by omega) (fun q hq => (HOW.out.lt q hq).1))⟩
                have := HO3.out
                simpa using this
              case rest =>
                obtain ⟨oo, hoo, hown, hB⟩ := hcut
                have HOO := hid hoo
                have HOW := hid hown
                have HB3 := hid hB
                have hln := shortest_len ((aa.take (aa.length - s)).drop p) ((bb.take (bb.length - s)).drop p)
                simp only [List.length_drop, List.length_take] at hln
                have hol : oo.length ≤ 50000 := by rw [hoo]; simp; omega
                have hs1 := hB.size
                clear hoo hown hB hln
                go_wp2_with (fail)
                refine (repeat_any wc.heap.size 32 s _ (by omega) ((Blk.new wc 31 [opV 32]).cell 0 (by simp))).mono ?_
                rintro e w4 ⟨v4, rfl, ho4, hb4⟩
                rw [List.length_replicate] at ho4
                have hB4 : Below wc.heap.size wc w4 := ((Below.refl _ wc).alloc (Nat.le_refl _) _).trans (hb4.mono (by simp))
                have HB4 := hid hB4
                have HOW4 := hid (ownsRow_below HOW.out hB4 (Nat.le_refl _))
                have HSR := hid (owns_Src ho4)
                have hs4 := hB4.size
                clear ho4 hb4 hB4
                have h1 := hid (op_one (List.replicate s 32))
                have h2 := hid (show oo.length + ((List.replicate s 32).map opV).length ≤ maxLen by simp [maxLen]; omega)
                have h3 := hid (show (oo.length + ((List.replicate s 32).map opV).length) * 16 ≤ 140737488355328 by simp; omega)
                have h4 := hid (show w.heap.size ≤ w4.heap.size by omega)
                go_wp2_with (at_builtin; refine wpList_append1 rfl (.tmp 86) (.tmp 89) 27 rfl w.heap.size 31 (.string ⟨#[]⟩) 16 Try.underlying27 Try.info31 rfl u7 _ _ rfl HOW4.out _ _ rfl HSR.out h1.out h2.out h3.out h4.out ?_; intro v5 w5 ho5 hg5; have HO5 := hid ho5; have HG5 := hid hg5; clear ho5 hg5)
                go_ret
                have hfin : scriptOps aa bb = oo ++ List.replicate s 32 := by
                  unfold My.scriptOps
                  rw [HP.out, HSU.out, HOO.out]
                refine ⟨_, rfl, ?_, (HB3.out.trans (HB4.out.mono hs1)).grown HG5.out (by omega) (fun q hq => (HOW4.out.lt q hq).1)⟩
                rw [hfin]
                have := HO5.out
                simpa using this
end Go.Proofs.Qxb6602717a
