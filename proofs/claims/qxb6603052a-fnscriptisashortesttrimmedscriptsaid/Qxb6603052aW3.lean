/-
  THE WALK OF 'step'.
-/
import Derived.Test.Qxb6603052aSh
import Derived.Test.Qxb6603052aW1
namespace Go.Proofs.Qxb6603052a
open Go.RowKit
open My (Vd)

def RetS (w : World) (x k : Int) (e : Ending) (w' : World) : Prop := e = .returned (.tuple #[.int .i64 x, .int .i64 k]) ∧ ∃ n, w' = w.drewN n

set_option maxHeartbeats 2000000 in
set_option maxRecDepth 100000 in
theorem step_any (g c d N : Nat) (k : Int) (r : Nat → Int) (G : Int → Int) (w : World) (hd : d ≤ 1000) (hN : N = 2 * d + 1) (hr : ∀ i, i < N → w.cell? ⟨g, i, none⟩ = some (.int .i64 (r i)))
    (hG : ∀ k', Vd d k' → r (k' + d).toNat = G k' ∧ 0 ≤ G k' ∧ G k' ≤ 10000) (hv : Vd (d + 1) k) :
    Calls Try.prog 21 #[.slice (some ⟨g, 0, none⟩) N c, .int .i64 k] w (RetS w (My.start G d k) (My.fromK G d k)) := by
  have HV := hid hv
  have hk1 : -((d : Int) + 1) ≤ k := by unfold Vd at hv; omega
  have hk2 : k ≤ (d : Int) + 1 := by unfold Vd at hv; omega
  have cR : k ≠ (d : Int) + 1 → w.cell? ⟨g, (k + 1 + d).toNat, none⟩ = some (.int .i64 (G (k + 1))) ∧ 0 ≤ G (k + 1) ∧ G (k + 1) ≤ 10000 := by
    intro h
    have h2 := hG (k + 1) (by unfold Vd at *; omega)
    rw [hr _ (show (k + 1 + (d : Int)).toNat < N by unfold Vd at hv; omega), h2.1]; exact ⟨rfl, h2.2⟩
  have cL : k ≠ -((d : Int) + 1) → w.cell? ⟨g, (k - 1 + d).toNat, none⟩ = some (.int .i64 (G (k - 1))) ∧ 0 ≤ G (k - 1) ∧ G (k - 1) ≤ 10000 := by
    intro h
    have h2 := hG (k - 1) (by unfold Vd at *; omega)
    rw [hr _ (show (k - 1 + (d : Int)).toNat < N by unfold Vd at hv; omega), h2.1]; exact ⟨rfl, h2.2⟩
  have HCR := hid cR
  have HCL := hid cL
  have hq : ((N : Int) - 1).tdiv 2 = d := by rw [Int.tdiv_eq_ediv_of_nonneg (by omega)]; omega
  have n1 : 2 * d + 1 ≤ N := by omega
  have n2 : N ≤ 2 * d + 1 := by omega
  clear hr hG hv cR cL hN
  generalize hB : decide (k = -((d : Int) + 1) ∨ (k ≠ (d : Int) + 1 ∧ G (k - 1) < G (k + 1))) = B
  have HB := hid hB
  clear hB
  go_enter Try.func21, Try.ntmps21
  go_upto_region 2 with (fail)
  go_cut [38] (fun t wc => t = .bool B ∧ ∃ n, wc = w.drewN n)
  case first =>
    by_cases g1 : k = -(d : Int) - 1
    · have HB2 := hid (show B = true by rw [← HB.out]; exact decide_eq_true (Or.inl (by omega)))
      have g1' : (k == -(d : Int) - 1) = true := by simpa using g1
      clear g1
      go_quiet (fail)
      go_wp2
      go_meet
      exact ⟨by rw [HB2.out], _, rfl⟩
    · have g1' : (k == -(d : Int) - 1) = false := by simpa using g1
      by_cases g2 : k = (d : Int) + 1
      · have HB2 := hid (show B = false by rw [← HB.out]; exact decide_eq_false (by omega))
        have g2' : (k != (d : Int) + 1) = false := by simpa using g2
        clear g1 g2
        go_quiet (fail)
        go_wp2
        go_meet
        exact ⟨by rw [HB2.out], _, rfl⟩
      · have g2' : (k != (d : Int) + 1) = true := by simpa using g2
        obtain ⟨c1, c2, c3⟩ := HCR.out g2
        obtain ⟨c4, c5, c6⟩ := HCL.out (by omega)
        have HB2 := hid (show decide (G (k - 1) < G (k + 1)) = B by rw [← HB.out]; simp only [decide_eq_decide]; omega)
        have hpar := HV.out
        unfold Vd at hpar
        have kk1 : 0 ≤ k + 1 + d := by omega
        have kk2 : 0 ≤ k - 1 + d := by omega
        have kk3 : k + 1 + d < N := by omega
        clear g1 g2 hpar
        go_quiet (fail)
        go_wp2
        go_meet
        exact ⟨by rw [HB2.out], _, rfl⟩
  case rest =>
    obtain ⟨rfl, nq, rfl⟩ := hcut
    cases hBB : B with
    | true =>
      have hb := of_decide_eq_true (HB.out.trans hBB)
      have HS := hid (show My.start G d k = G (k + 1) by unfold My.start; rw [if_pos hb])
      have HF := hid (show My.fromK G d k = k + 1 by unfold My.fromK; rw [if_pos hb])
      obtain ⟨c1, c2, c3⟩ := HCR.out (by omega)
      have hpar := HV.out
      unfold Vd at hpar
      have kk1 : 0 ≤ k + 1 + d := by omega
      have kk3 : k + 1 + d < N := by omega
      clear hb hBB hpar
      go_wp2
      go_ret2
      exact ⟨by rw [HS.out, HF.out]; rfl, nq, rfl⟩
    | false =>
      have hb := of_decide_eq_false (HB.out.trans hBB)
      have HS := hid (show My.start G d k = G (k - 1) + 1 by unfold My.start; rw [if_neg hb])
      have HF := hid (show My.fromK G d k = k - 1 by unfold My.fromK; rw [if_neg hb])
      obtain ⟨c1, c2, c3⟩ := HCL.out (by omega)
      have hpar := HV.out
      unfold Vd at hpar
      have kk1 : 0 ≤ k - 1 + d := by omega
      have kk3 : k - 1 + d < N := by omega
      clear hb hBB hpar
      go_wp2
      go_ret2
      exact ⟨by rw [HS.out, HF.out]; rfl, nq, rfl⟩
end Go.Proofs.Qxb6603052a
