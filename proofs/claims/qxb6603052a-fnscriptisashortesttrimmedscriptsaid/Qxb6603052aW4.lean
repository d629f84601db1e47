/-
  THE WALK OF 'backtrack'.
-/
import Derived.Test.Qxb6603052aE
import Derived.Test.Qxb6603052aW3
namespace Go.Proofs.Qxb6603052a
open Go.RowKit
open My (F D L Vd sn back shortestOps play)

/-- These edits, laid anew; nothing old has turned. -/
def Eds (w : World) (es : List Ed) (e : Ending) (w' : World) : Prop := ∃ v, e = .returned v ∧ ERow w' w.heap.size v es ∧ Below w.heap.size w w'

def RowF (aa bb : List ByteArray) (i : Nat) (r : Nat → Int) : Prop := ∀ k, Vd i k → r (k + i).toNat = F aa bb i k

/-- The rows of furthest points, as they lie. -/
def FurAt (aa bb : List ByteArray) (w : World) (gf n : Nat) : Prop :=
  ∀ i, i < n → ∃ (g c : Nat) (r : Nat → Int), w.cell? ⟨gf, i, none⟩ = some (.slice (some ⟨g, 0, none⟩) (2 * i + 1) c) ∧ (∀ j, j < 2 * i + 1 → w.cell? ⟨g, j, none⟩ = some (.int .i64 (r j))) ∧ RowF aa bb i r

theorem FurAt.below {aa bb : List ByteArray} {w w' : World} {gf n : Nat} (h : FurAt aa bb w gf n) (hb : Below w.heap.size w w') : FurAt aa bb w' gf n := by
  intro i hi
  obtain ⟨g, c, r, h1, h2, h3⟩ := h i hi
  exact ⟨g, c, r, by rw [hb.cell (p := ⟨gf, i, none⟩) (World.block_lt_of_cell? _ _ h1)]; exact h1, fun j hj => by rw [hb.cell (p := ⟨g, j, none⟩) (World.block_lt_of_cell? _ _ (h2 j hj))]; exact h2 j hj, h3⟩

theorem back_next {aa bb : List ByteArray} {acc full : List UInt8} {j xn xt t : Nat} {k fr : Int} {c : UInt8} (h : acc ++ back aa bb (j + 1) k = full) (hF : F aa bb (j + 1) k = xn) (hs : My.start (F aa bb j) j k = xt)
    (hfr : fr = My.fromK (F aa bb j) j k) (ht : xt + t = xn) (hc : c = if fr = k + 1 then 43 else 45) : acc ++ List.replicate t 32 ++ [c] ++ back aa bb j fr = full := by
  rw [← h, My.back_succ, hF, hs, ← hfr, ← hc, show ((xn : Int) - xt).toNat = t by omega]
  simp

theorem layB_snoc (aa bb : List ByteArray) (l : List UInt8) (o : UInt8) (n m : Nat) : layB aa bb (l ++ [o]) n m = layB aa bb l n m ++ [(o, if o = 43 then ln bb (m - cntB l - 1) else ln aa (n - cntA l - 1))] := by
  rw [layB_append]; rfl

theorem layB_A {aa bb : List ByteArray} {l : List UInt8} {o : UInt8} {x : Nat} (ho : o ≠ 43) (hx : x + 1 + cntA l = aa.length) (hxl : x < aa.length) : layB aa bb (l ++ [o]) aa.length bb.length = layB aa bb l aa.length bb.length ++ [(o, aa[x])] := by
  rw [layB_snoc, if_neg ho, ← ln_get hxl]
  congr 4; omega

theorem layB_B {aa bb : List ByteArray} {l : List UInt8} {x : Nat} (hx : x + 1 + cntB l = bb.length) (hxl : x < bb.length) : layB aa bb (l ++ [43]) aa.length bb.length = layB aa bb l aa.length bb.length ++ [(43, bb[x])] := by
  rw [layB_snoc, if_pos rfl, ← ln_get hxl]
  congr 4; omega

set_option maxHeartbeats 4000000 in
set_option maxRecDepth 100000 in
theorem backtrack_any (pa pb : Option Addr) (ca cb gf cf dd : Nat) (aa bb : List ByteArray) (w : World) (hla : aa.length ≤ 8192) (hlb : bb.length ≤ 8192) (hDD : D aa bb = dd) (hdd : dd ≤ 1000)
    (ha : SAt w pa aa) (hb : SAt w pb bb) (hf : FurAt aa bb w gf dd) (N : Nat) (hN : N = dd + 1) (k0 : Int) (hk0 : k0 = (aa.length : Int) - bb.length) :
    Calls Try.prog 22 #[.slice pa aa.length ca, .slice pb bb.length cb, .slice (some ⟨gf, 0, none⟩) N cf, .int .i64 k0] w (Eds w (lay aa bb (shortestOps aa bb) 0 0)) := by
  have HA := hid ha
  have HB := hid hb
  have HF := hid hf
  have hFD := My.F_D aa bb
  have hVD := My.Vd_D aa bb
  rw [hDD] at hFD hVD
  have HFD := hid hFD
  have HVD := hid hVD
  have HDD := hid hDD
  have HK0 := hid hk0
  have n1 : dd + 1 ≤ N := by omega
  have n2 : N ≤ dd + 1 := by omega
  have kb1 : -20000 ≤ k0 := by omega
  have kb2 : k0 ≤ 20000 := by omega
  clear ha hb hf hFD hVD hDD hk0 hN
  go_enter Try.func22, Try.ntmps22
  go_wp2
  go_loopg [3, 9, 10, 11, 12] dd (fun gm kv xv yv ov dv wr => ∃ (d d1 xn yn : Nat) (k : Int) (acc : List UInt8), d = gm ∧ k = (xn : Int) - yn ∧ kv = .int .i64 k ∧ xv = .int .i64 xn ∧ yv = .int .i64 yn ∧ dv = .int .i64 d ∧ Vd d k ∧ F aa bb d k = xn ∧
    d ≤ dd ∧ acc ++ back aa bb d k = back aa bb dd ((aa.length : Int) - bb.length) ∧ xn + cntA acc = aa.length ∧ yn + cntB acc = bb.length ∧ acc.length + xn + yn ≤ aa.length + bb.length ∧ ERow wr w.heap.size ov (layB aa bb acc aa.length bb.length) ∧ Below w.heap.size w wr)
  case atStart =>
    refine ⟨dd, 0, aa.length, bb.length, k0, [], rfl, HK0.out, rfl, rfl, rfl, by go_num, ?_, ?_, by omega, by rw [HK0.out]; simp, by simp, by simp, by simp, ERow.nil _ _, Below.refl _ _⟩
    · rw [HK0.out]; exact HVD.out
    · rw [HK0.out]; exact HFD.out
  case round =>
    obtain ⟨d, _, xn, yn, k, acc, rfl, hk, rfl, rfl, rfl, rfl, hv, hF, hd, hacc, hca, hcb, hal, hE, hB⟩ := hrel
    have HKK := hid hk
    have HV := hid hv
    have HFF := hid hF
    have HAC := hid hacc
    have HCA := hid hca
    have HCB := hid hcb
    have HE := hid hE
    have HBl := hid hB
    have hxn : xn ≤ aa.length := by omega
    have hyn : yn ≤ bb.length := by omega
    have z0 := hB.size
    clear hF hacc hca hcb hE hB hk
    rcases d with _ | j
    · clear hv
      go_wp2_with (fail)
      go_loopg [9, 11] xn (fun gm xv ov wr => ∃ t xt : Nat, xt = gm ∧ xt + t = xn ∧ xv = .int .i64 xt ∧ ERow wr w.heap.size ov (layB aa bb (acc ++ List.replicate t 32) aa.length bb.length) ∧ Below w.heap.size w wr)
      case atStart => exact ⟨0, xn, rfl, rfl, rfl, by simpa using HE.out, HBl.out⟩
      case round =>
        clear HE HBl
        obtain ⟨t, xt, rfl, ht1, rfl, hE, hB⟩ := hrel
        have HE := hid hE
        have HBl := hid hB
        have HT1 := hid ht1
        have z1 := hB.size
        have y1 : xt ≤ xn := by omega
        have hlen : (layB aa bb (acc ++ List.replicate t 32) aa.length bb.length).length + 1 ≤ 65536 := by rw [layB_length]; simp; omega
        have HLEN := hid hlen
        have hcA : xt + cntA (acc ++ List.replicate t 32) = aa.length := by rw [cntA_append, cntA_rep, if_neg (by decide)]; have := HCA.out; omega
        have HcA := hid hcA
        clear ht1 hlen hcA
        by_cases hgt : 0 < xt
        · have hx0 : xt - 1 < aa.length := by omega
          obtain ⟨ba, oa, rfl, hca⟩ := (HA.out.below hB) (xt - 1) hx0
          have HE2 := hid (fun o => HE.out.below ((Below.refl _ wr).alloc (Nat.le_refl _) o))
          have HSR := hid (ESrc.one wr 32 aa[xt - 1] 32 rfl)
          have hgt1 : (0 : Int) < xt := by omega
          clear hE hB
          go_wp2_with (at_builtin; refine wpList_appE rfl (.tmp 84) (.tmp 91) rfl w.heap.size u11 _ _ _ rfl rfl (HE2.out _) HSR.out HLEN.out (by simp; omega) ?_; intro v1 w1 hn1 hg1 hb1; have HN1 := hid hn1; have HB1 := hid hb1; clear hn1 hg1 hb1)
          go_roundg (xt - 1)
          case measure => omega
          case rel =>
            refine ⟨t + 1, xt - 1, rfl, by have := HT1.out; omega, by go_num, ?_, (HBl.out.alloc z1 _).trans HB1.out⟩
            have h := HN1.out
            rw [← layB_A (by decide) (by have := HcA.out; omega) hx0] at h
            rwa [List.append_assoc, ← List.replicate_succ'] at h
        · obtain rfl : xt = 0 := by omega
          obtain ⟨R, hR⟩ : ∃ R, R = layB aa bb (acc ++ List.replicate t 32) aa.length bb.length := ⟨_, rfl⟩
          have hfull : acc ++ List.replicate t 32 = (shortestOps aa bb).reverse := by
            have h1 := HAC.out
            have h2 := HFF.out
            rw [My.back_zero, h2, Int.toNat_natCast] at h1
            have ht : t = xn := by have := HT1.out; omega
            rw [ht, h1]; unfold My.shortestOps
            rw [HDD.out, if_pos hdd, List.reverse_reverse]
          have HRR := hid (show R.reverse = lay aa bb (shortestOps aa bb) 0 0 by
            have hp := play_cnt aa bb _ 0 0 _ (My.shortest_play aa bb (by rw [HDD.out]; exact hdd)).1
            simp only [Nat.zero_add, Prod.mk.injEq] at hp
            rw [hR, hfull, layB_rev _ _ _ _ _ (by rw [cntA_reverse]; omega) (by rw [cntB_reverse]; omega), cntA_reverse, cntB_reverse, List.reverse_reverse]
            congr 1 <;> omega)
          have hLEN : R.length ≤ 20000 := by rw [hR, layB_length]; simp; have := HT1.out; omega
          rw [← hR] at HE hE
          obtain ⟨w4, hw4⟩ : ∃ w4, w4 = wr := ⟨_, rfl⟩
          subst hw4
          obtain ⟨v, cv, rfl, hv1, hv2⟩ := hE.form
          obtain ⟨M, hM⟩ : ∃ M, R.length = M := ⟨_, rfl⟩
          have HM := hid hM
          rw [hM] at HE hLEN hv1 ⊢
          have hmk := make_eds M (by omega)
          have hgt1 : ¬ (0 : Int) < ((0 : Nat) : Int) := by omega
          clear hE hB hR hfull hM HLEN
          go_wp2_with (fail)
          clear hmk
          go_loopg [100] M (fun gm iv w5 => ∃ i : Nat, gm = M - i ∧ i ≤ M ∧ iv = .int .i64 i ∧ Blk w5 w4.heap.size 40 ((revFill R i).flatMap edCells) ∧ Below w4.heap.size w4 w5)
          case atStart => exact ⟨0, rfl, by omega, rfl, by rw [revFill_zero, HM.out]; exact Blk.new w4 40 _, (Below.refl _ w4).alloc (Nat.le_refl _) _⟩
          case round =>
            obtain ⟨i, rfl, hi, rfl, hK, hB5⟩ := hrel
            have HK := hid hK
            have HB5 := hid hB5
            by_cases hlt : i < M
            · have hil : i < R.length := by rw [HM.out]; exact hlt
              obtain ⟨q, hq⟩ : ∃ q, R[i]? = some q := ⟨R[i], List.getElem?_eq_getElem hil⟩
              obtain ⟨ge, rfl, hge, g0, g1⟩ := HE.out.cell i q hq
              have lge := World.block_lt_of_cell? _ _ g0
              have g0' : wr.cell? ⟨ge, i * 2, none⟩ = some (.int .u8 q.1.toNat) := by rw [hB5.cell (p := ⟨ge, i * 2, none⟩) lge]; exact g0
              have g1' : wr.cell? ⟨ge, i * 2 + 1, none⟩ = some (.string q.2) := by rw [hB5.cell (p := ⟨ge, i * 2 + 1, none⟩) lge]; exact g1
              have z5 := hB5.size
              have hlt1 : (i : Int) < M := by omega
              have hrl : (revFill R i).length = M := by rw [revFill_length _ _ (by omega), HM.out]
              obtain ⟨q2, hq2⟩ : ∃ q, (revFill R i)[M - 1 - i]? = some q := ⟨_, List.getElem?_eq_getElem (by omega)⟩
              have e0 := fun o => ((hK.alloc o).eds _ _ hq2).1
              have e1 := fun o => ((hK.alloc o).eds _ _ hq2).2
              have f0 := fun o t => (hK.alloc o).frozen t
              have HQ := hid hq
              clear hil hq g0 g1 hq2 hK hB5 hrl
              go_wp2_with (fail)
              go_roundg (M - (i + 1))
              case measure => omega
              case rel =>
                refine ⟨i + 1, rfl, by omega, by go_num, ?_, ((HB5.out.alloc z5 _).setCell (Nat.le_refl _) _).setCell (Nat.le_refl _) _⟩
                have h := (HK.out.alloc (.cells #[.int .u8 q.1.toNat, .string q.2] 40)).eset (M - 1 - i) q (by rw [revFill_length _ _ (by rw [HM.out]; omega), HM.out]; omega)
                rw [← revFill_set R i q HQ.out, HM.out]
                exact h
            · have hlt1 : ¬ (i : Int) < M := by omega
              obtain rfl : i = M := by omega
              clear hK hB5
              go_wp2_with (fail)
              go_ret
              have hK := HK.out
              have hir : i = R.length := HM.out.symm
              refine ⟨_, rfl, ?_, HBl.out.trans (HB5.out.mono z1)⟩
              rw [← HRR.out]
              have h5 := (show Blk _ _ 40 (R.reverse.flatMap edCells) by rw [← revFill_all, ← hir]; exact hK).erow z1 (by rw [List.length_reverse, ← hir]; omega)
              rw [List.length_reverse, HM.out] at h5
              exact h5
    · have hkb : -(j : Int) - 1 ≤ k ∧ k ≤ (j : Int) + 1 := by unfold Vd at hv; omega
      obtain ⟨hkb1, hkb2⟩ := hkb
      obtain ⟨d1, hd1⟩ : ∃ d1, j + 1 = d1 := ⟨_, rfl⟩
      rw [hd1]
      have e1 : d1 - 1 = j := by omega
      obtain ⟨g, c, r, c1, c2, c3⟩ := (HF.out.below HBl.out) j (by omega)
      rw [← e1] at c1
      have HST := hid (step_any g c j (2 * j + 1) k r (F aa bb j) wr (by omega) rfl c2 (fun k' hv' => ⟨c3 k' hv', (My.F_pos aa bb j k' hv').1, by have := (My.F_le aa bb j k' hv').1; omega⟩) HV.out)
      obtain ⟨NN, hNN⟩ : ∃ NN, 2 * (d1 - 1) + 1 = NN := ⟨_, rfl⟩
      rw [hNN] at c1
      have hNN2 : 2 * j + 1 = NN := by omega
      rw [hNN2] at HST
      have q1 : j + 1 ≤ d1 := by omega
      have q2 : d1 ≤ j + 1 := by omega
      clear c2 c3 hv e1 hNN hNN2 hd1
      go_wp2_with (fail)
      refine HST.out.mono ?_
      rintro e w1 ⟨rfl, nn1, rfl⟩
      clear HST
      have HE' := hid (HE.out.below (below_drewN (Below.refl _ wr) nn1))
      have HBl' := hid (below_drewN HBl.out nn1)
      clear HE HBl
      generalize wr.drewN nn1 = wq at *
      obtain ⟨fr, hfr⟩ : ∃ fr, fr = My.fromK (F aa bb j) j k := ⟨_, rfl⟩
      obtain ⟨sx, hsx⟩ : ∃ sx, sx = My.start (F aa bb j) j k := ⟨_, rfl⟩
      have hcs := My.fromK_cases (F aa bb j) j k HV.out
      rw [← hfr, ← hsx] at hcs ⊢
      have hsle : sx ≤ xn ∧ 0 ≤ sx ∧ k ≤ sx := by
        have h1 := My.start_pos aa bb j k HV.out
        have h2 := My.sn_ge aa bb k sx
        have h3 := HFF.out
        rw [My.F_succ, ← hsx] at h3
        rw [← hsx] at h1
        omega
      have hfb : -2000 ≤ fr ∧ fr ≤ 2000 := by rcases hcs with ⟨_, h2, _⟩ | ⟨_, h2, _⟩ <;> omega
      obtain ⟨l1, l2, l3⟩ := hsle
      obtain ⟨l4, l5⟩ := hfb
      have HCS := hid hcs
      have HFR := hid hfr
      have HSX := hid hsx
      clear hcs hfr hsx c1
      go_wp2_with (fail)
      go_loopg [9, 10, 11] (xn - sx.toNat) (fun gm xv yv ov wr => ∃ t xt yt : Nat, gm = xt - sx.toNat ∧ xt + t = xn ∧ yt + t = yn ∧ sx ≤ xt ∧ xv = .int .i64 xt ∧ yv = .int .i64 yt ∧ ERow wr w.heap.size ov (layB aa bb (acc ++ List.replicate t 32) aa.length bb.length) ∧ Below w.heap.size w wr)
      case atStart => exact ⟨0, xn, yn, rfl, rfl, rfl, l1, rfl, rfl, by simpa using HE'.out, HBl'.out⟩
      case round =>
        clear HE' HBl'
        obtain ⟨t, xt, yt, rfl, ht1, ht2, hsx1, rfl, rfl, hE, hB⟩ := hrel
        have HE := hid hE
        have HBl := hid hB
        have HT1 := hid ht1
        have HT2 := hid ht2
        have z1 := hB.size
        have y1 : xt ≤ xn := by omega
        have y2 : yt ≤ yn := by omega
        have y3 : (xt : Int) - yt = k := by have := HKK.out; omega
        have HY3 := hid y3
        have hlen : (layB aa bb (acc ++ List.replicate t 32) aa.length bb.length).length + 1 ≤ 65536 := by rw [layB_length]; simp; omega
        have HLEN := hid hlen
        have hcA : xt + cntA (acc ++ List.replicate t 32) = aa.length := by rw [cntA_append, cntA_rep, if_neg (by decide)]; have := HCA.out; omega
        have hcB : yt + cntB (acc ++ List.replicate t 32) = bb.length := by rw [cntB_append, cntB_rep, if_neg (by decide)]; have := HCB.out; omega
        have HcA := hid hcA
        have HcB := hid hcB
        clear ht1 ht2 hlen hcA hcB
        by_cases hgt : sx < (xt : Int)
        · have hx0 : xt - 1 < aa.length := by omega
          obtain ⟨ba, oa, rfl, hca⟩ := (HA.out.below hB) (xt - 1) hx0
          have HE2 := hid (fun o => HE.out.below ((Below.refl _ wr).alloc (Nat.le_refl _) o))
          have HSR := hid (ESrc.one wr 32 aa[xt - 1] 32 rfl)
          have yt1 : 1 ≤ yt := by omega
          clear hE hB y3
          go_wp2_with (at_builtin; refine wpList_appE rfl (.tmp 42) (.tmp 49) rfl w.heap.size u11 _ _ _ rfl rfl (HE2.out _) HSR.out HLEN.out (by simp; omega) ?_; intro v1 w1 hn1 hg1 hb1; have HN1 := hid hn1; have HB1 := hid hb1; clear hn1 hg1 hb1)
          go_roundg (xt - 1 - sx.toNat)
          case measure => omega
          case rel =>
            refine ⟨t + 1, xt - 1, yt - 1, rfl, by have := HT1.out; omega, by have := HT2.out; omega, by omega, by go_num, by go_num, ?_, (HBl.out.alloc z1 _).trans HB1.out⟩
            have h := HN1.out
            rw [← layB_A (by decide) (by have := HcA.out; omega) hx0] at h
            rwa [List.append_assoc, ← List.replicate_succ'] at h
        · have hxt : (xt : Int) = sx := by omega
          have HXT := hid hxt
          rcases HCS.out with ⟨hb1, hb2, hb3, _⟩ | ⟨hb1, hb2, hb3, _⟩
          · have hpos := My.F_pos aa bb j _ hb1
            rw [← hb3] at hpos
            have hfk : (fr == k + 1) = true := beq_iff_eq.2 hb2
            have hy1 : 1 ≤ yt := by omega
            have hx0 : yt - 1 < bb.length := by omega
            have HVf := hid (show Vd j fr by rw [hb2]; exact hb1)
            have HF2 := hid (show F aa bb j fr = xt by rw [hb2, ← hb3]; exact hxt.symm)
            have HB2 := hid hb2
            obtain ⟨ba, oa, rfl, hca⟩ := (HB.out.below hB) (yt - 1) hx0
            have HE2 := hid (fun o => HE.out.below ((Below.refl _ wr).alloc (Nat.le_refl _) o))
            have HSR := hid (ESrc.one wr 43 bb[yt - 1] 43 rfl)
            clear hE hB y3 hxt hb1 hb2 hb3 hpos HCS
            go_wp2_with (at_builtin; refine wpList_appE rfl (.tmp 59) (.tmp 66) rfl w.heap.size u11 _ _ _ rfl rfl (HE2.out _) HSR.out HLEN.out (by simp; omega) ?_; intro v1 w1 hn1 hg1 hb1; have HN1 := hid hn1; have HB1 := hid hb1; clear hn1 hg1 hb1)
            go_roundg j
            case measure => omega
            case rel =>
              refine ⟨j, 0, xt, yt - 1, fr, acc ++ List.replicate t 32 ++ [43], rfl, by have := HY3.out; have := HB2.out; omega, rfl, rfl, by go_num, by go_num, HVf.out, HF2.out, by omega, ?_, ?_, ?_, ?_, ?_, (HBl.out.alloc z1 _).trans HB1.out⟩
              · exact back_next HAC.out HFF.out (by rw [← HSX.out, HXT.out]) HFR.out HT1.out (by rw [if_pos HB2.out])
              · rw [cntA_append]; exact HcA.out
              · rw [cntB_append]; have := HcB.out; show yt - 1 + (_ + 1) = _; omega
              · have h3 := HT1.out; have h4 := HT2.out; simp; omega
              · have h := HN1.out
                rwa [← layB_B (by have := HcB.out; omega) hx0] at h
          · have hpos := My.F_pos aa bb j _ hb1
            have hfk : (fr == k + 1) = false := beq_eq_false_iff_ne.2 (by omega)
            have hy1 : 1 ≤ xt := by omega
            have hx0 : xt - 1 < aa.length := by omega
            have HVf := hid (show Vd j fr by rw [hb2]; exact hb1)
            have HF2 := hid (show F aa bb j fr = ((xt - 1 : Nat) : Int) by rw [hb2]; omega)
            have HB2 := hid hb2
            obtain ⟨ba, oa, rfl, hca⟩ := (HA.out.below hB) (xt - 1) hx0
            have HE2 := hid (fun o => HE.out.below ((Below.refl _ wr).alloc (Nat.le_refl _) o))
            have HSR := hid (ESrc.one wr 45 aa[xt - 1] 45 rfl)
            clear hE hB y3 hxt hb1 hb2 hb3 hpos HCS
            go_wp2_with (at_builtin; refine wpList_appE rfl (.tmp 70) (.tmp 77) rfl w.heap.size u11 _ _ _ rfl rfl (HE2.out _) HSR.out HLEN.out (by simp; omega) ?_; intro v1 w1 hn1 hg1 hb1; have HN1 := hid hn1; have HB1 := hid hb1; clear hn1 hg1 hb1)
            go_roundg j
            case measure => omega
            case rel =>
              refine ⟨j, 0, xt - 1, yt, fr, acc ++ List.replicate t 32 ++ [45], rfl, by have := HY3.out; have := HB2.out; omega, rfl, by go_num, rfl, by go_num, HVf.out, HF2.out, by omega, ?_, ?_, ?_, ?_, ?_, (HBl.out.alloc z1 _).trans HB1.out⟩
              · exact back_next HAC.out HFF.out (by rw [← HSX.out, HXT.out]) HFR.out HT1.out (by rw [if_neg (by have := HB2.out; omega)])
              · rw [cntA_append]; have := HcA.out; show xt - 1 + (_ + 1) = _; omega
              · rw [cntB_append]; exact HcB.out
              · have h3 := HT1.out; have h4 := HT2.out; simp; omega
              · have h := HN1.out
                rwa [← layB_A (by decide) (by have := HcA.out; omega) hx0] at h
end Go.Proofs.Qxb6603052a
