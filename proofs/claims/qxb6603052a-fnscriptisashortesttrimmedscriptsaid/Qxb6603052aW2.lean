/-
  THE WALK OF zzLCS.
-/
import Derived.Test.Qxb6603052aPlay
import Derived.Test.Qxb6603052aSh
import Derived.Test.Qxb6603052aProg
namespace Go.Proofs.Qxb6603052a
open Go.RowKit
open My (L eqAt)

theorem Try.info3' : (Try.prog.info? 3).map (fun i => (i.zero, i.size, i.bytes)) = some (some (.int .i64 0), 1, 8) := by kernel_rfl

def RetN (x : Nat) (w : World) (e : Ending) (w' : World) : Prop := e = .returned (.int .i64 x) ∧ Below w.heap.size w w'

theorem row_set {i : Nat} {r : Nat → Int} {aa bb : List ByteArray} {j : Nat} (h : ∀ t, t ≤ j → r t = L aa bb (i + 1) t) (x : Int) (hx : x = L aa bb (i + 1) (j + 1)) : ∀ t, t ≤ j + 1 → (fun q => if q = j + 1 then x else r q) t = L aa bb (i + 1) t := by
  intro t ht
  dsimp only
  by_cases e : t = j + 1
  · rw [if_pos e, e]; exact hx
  · rw [if_neg e]; exact h t (by omega)

set_option maxHeartbeats 2000000 in
set_option maxRecDepth 100000 in
theorem lcs_any (a b : Option Addr) (ca cbb : Nat) (aa bb : List ByteArray) (w : World) (hla : aa.length ≤ 8192) (hlb : bb.length ≤ 8192) (ha : SAt w a aa) (hb : SAt w b bb) :
    Calls Try.prog 10 #[.slice a aa.length ca, .slice b bb.length cbb] w (RetN (L aa bb aa.length bb.length) w) := by
  have HA := hid ha
  have HB := hid hb
  clear ha hb
  have hmk := run_make_row' (P := Try.prog) 38 3 (.int .i64 0) 8 Try.underlying38 Try.info3' rfl .i64 .i64 (bb.length + 1) (by omega) (by omega)
  have eN : ((bb.length + 1 : Nat) : Int) = (bb.length : Int) + 1 := by omega
  rw [eN] at hmk
  clear eN
  go_enter Try.func10, Try.ntmps10
  go_wp2
  clear hmk
  obtain ⟨N, hN⟩ : ∃ N, N = bb.length + 1 := ⟨_, rfl⟩
  rw [← hN]
  have n1 : bb.length < N := by omega
  have n2 : N ≤ bb.length + 1 := by omega
  have HN := hid hN
  clear hN
  go_loopg [5, 6, 7] aa.length (fun gm pv cv iv wr => ∃ (i i1 gp gc : Nat) (rp rc : Nat → Int), gm = aa.length - i ∧ i ≤ aa.length ∧ i + 1 ≤ i1 ∧ i1 ≤ i + 1 ∧ iv = .int .i64 i1 ∧ pv = .slice (some ⟨gp, 0, none⟩) N N ∧ cv = .slice (some ⟨gc, 0, none⟩) N N ∧ w.heap.size ≤ gp ∧ w.heap.size ≤ gc ∧ gp ≠ gc ∧
    Blk wr gp 3 (irow N rp) ∧ Blk wr gc 3 (irow N rc) ∧ (∀ j, rp j = L aa bb i j ∨ ¬ j < N) ∧ Below w.heap.size w wr)
  case atStart =>
    refine ⟨0, 1, w.heap.size, w.heap.size + 1, fun _ => 0, fun _ => 0, rfl, by omega, by omega, by omega, rfl, rfl, rfl, by omega, by omega, by omega, ?_, ?_, fun j => .inl (by rw [My.L_zero]; rfl), ((Below.refl _ _).alloc (Nat.le_refl _) _).alloc (by simp) _⟩
    · rw [irow_zero]; exact (Blk.made w 3 _ _).alloc _
    · rw [irow_zero]; have := Blk.made (w.alloc (.cells (madeCells #[.int .i64 0] N) 3)) 3 (.int .i64 0) N; simpa using this
  case round =>
    obtain ⟨i, i1, gp, gc, rp, rc, rfl, hi, hi1, hi2, rfl, rfl, rfl, hp1, hc1, hne, hKp, hKc, hrp, hB⟩ := hrel
    have HKp := hid hKp
    have HKc := hid hKc
    have HRP := hid hrp
    have HBl := hid hB
    have hne' : ¬ gc = gp := fun e => hne e.symm
    clear hKp hKc hrp hB
    by_cases hlt : i < aa.length
    · have hlt1 : (i1 : Int) ≤ aa.length := by omega
      have c0 := HKc.out.icell 0 (by omega)
      have f0 := HKc.out.frozen 0
      go_wp2
      go_loopg [8] bb.length (fun gm jv wr' => ∃ (j j1 : Nat) (rc : Nat → Int), gm = bb.length - j ∧ j ≤ bb.length ∧ j + 1 ≤ j1 ∧ j1 ≤ j + 1 ∧ jv = .int .i64 j1 ∧ Blk wr' gp 3 (irow N rp) ∧ Blk wr' gc 3 (irow N rc) ∧ (∀ t, t ≤ j → rc t = L aa bb (i + 1) t) ∧ Below w.heap.size w wr')
      case atStart =>
        refine ⟨0, 1, fun q => if q = 0 then 0 else rc q, rfl, by omega, by omega, by omega, rfl, HKp.out.setOther _ _ hne, by rw [← irow_set]; exact HKc.out.set 0 _, fun t ht => ?_, HBl.out.setCell hc1 _⟩
        obtain rfl : t = 0 := by omega
        rw [My.L_zero']; rfl
      case round =>
        clear HKp HKc HBl c0 f0
        obtain ⟨j, j1, rc, rfl, hj, hj1, hj2, rfl, hKp, hKc, hrc, hB⟩ := hrel
        have HKp := hid hKp
        have HKc := hid hKc
        have HRC := hid hrc
        have HBl := hid hB
        clear hKp hKc hrc hB
        by_cases hjl : j < bb.length
        · have hjl1 : (j1 : Int) ≤ bb.length := by omega
          have ei : i1 - 1 = i := by omega
          have ej : j1 - 1 = j := by omega
          obtain ⟨ba, oa, rfl, hca⟩ := HA.out i hlt
          obtain ⟨bb', ob', rfl, hcb⟩ := HB.out j hjl
          have hca' : wr.cell? ⟨ba, oa + (i1 - 1), none⟩ = some (.string aa[i]) := by rw [ei, HBl.out.cell (p := ⟨ba, oa + i, none⟩) (World.block_lt_of_cell? _ _ hca)]; exact hca
          have hcb' : wr.cell? ⟨bb', ob' + (j1 - 1), none⟩ = some (.string bb[j]) := by rw [ej, HBl.out.cell (p := ⟨bb', ob' + j, none⟩) (World.block_lt_of_cell? _ _ hcb)]; exact hcb
          generalize hS : eqAt aa bb i j = S
          have HS := hid hS
          have HE := hid (show (aa[i].toList == bb[j].toList) = S by rw [← hS, My.eqAt_iff hlt hjl, bytes_eq])
          clear hS hca hcb ei ej
          go_wp2
          go_cut [41] (fun t wc => t = .bool S ∧ ∃ n, wc = wr.drewN n)
          case first =>
            go_quiet (fail)
            go_wp2
            go_meet
            exact ⟨by rw [HE.out], _, rfl⟩
          case rest =>
            obtain ⟨rfl, nq, rfl⟩ := hcut
            have HKp' := hid (show Blk (wr.drewN nq) gp 3 (irow N rp) from HKp.out)
            have HKc' := hid (show Blk (wr.drewN nq) gc 3 (irow N rc) from HKc.out)
            have HBl' := hid (below_drewN HBl.out nq)
            clear HKp HKc HBl hca' hcb' HE
            generalize wr.drewN nq = wq at *
            have hL := My.L_succ aa bb i j
            have hb0 := My.L_le_j aa bb i j
            have hb1 := My.L_le_j aa bb i (j + 1)
            have hb2 := My.L_le_j aa bb (i + 1) j
            have e0 := (HRP.out j).resolve_right (by omega)
            have e1 := (HRP.out (j + 1)).resolve_right (by omega)
            have e2 := HRC.out j (Nat.le_refl _)
            have p0 := HKp'.out.icell j (by omega)
            have p1 := HKp'.out.icell (j + 1) (by omega)
            have q0 := HKc'.out.icell j (by omega)
            have q1 := HKc'.out.icell j1 (by omega)
            have qf := HKc'.out.frozen j1
            rw [HS.out] at hL
            rw [e0] at p0
            rw [e1] at p1
            rw [e2] at q0
            generalize L aa bb i j = l0 at *
            generalize L aa bb i (j + 1) = l1 at *
            generalize L aa bb (i + 1) j = l2 at *
            have ej : j1 - 1 = j := by omega
            have ej2 : j + 1 = j1 := by omega
            rw [← ej] at p0 q0
            rw [ej2] at p1
            clear e0 e1 e2 ej ej2
            have in1 : (j1 : Int) < N := by omega
            have HRS := hid (fun (x : Int) (hx : x = L aa bb (i + 1) (j + 1)) => row_set HRC.out x hx)
            cases hSS : S with
            | true =>
              have HL := hid (show L aa bb (i + 1) (j + 1) = l0 + 1 by rw [hL, if_pos hSS])
              clear hL hSS HS
              go_wp2
              go_roundg (bb.length - (j + 1))
              case measure => omega
              case rel =>
                obtain rfl : j1 = j + 1 := by omega
                exact ⟨j + 1, j + 1 + 1, _, rfl, by omega, by omega, by omega, by go_num, HKp'.out.setOther _ _ hne, by rw [← irow_set]; exact HKc'.out.set (j + 1) _, HRS.out _ (by rw [HL.out]; omega), HBl'.out.setCell hc1 _⟩
            | false =>
              have HL := hid (show L aa bb (i + 1) (j + 1) = max l1 l2 by rw [hL, if_neg (by rw [hSS]; simp)])
              clear hL hSS HS
              go_wp2
              by_cases hge : l2 ≤ l1
              · have hge1 : (l2 : Int) ≤ (l1 : Int) := by omega
                go_quiet (fail)
                go_wp2
                go_roundg (bb.length - (j + 1))
                case measure => omega
                case rel =>
                obtain rfl : j1 = j + 1 := by omega
                exact ⟨j + 1, j + 1 + 1, _, rfl, by omega, by omega, by omega, by go_num, HKp'.out.setOther _ _ hne, by rw [← irow_set]; exact HKc'.out.set (j + 1) _, HRS.out _ (by rw [HL.out]; omega), below_drewN (HBl'.out.setCell hc1 _) _⟩
              · have hge1 : ¬ (l2 : Int) ≤ (l1 : Int) := by omega
                go_quiet (fail)
                go_wp2
                go_roundg (bb.length - (j + 1))
                case measure => omega
                case rel =>
                obtain rfl : j1 = j + 1 := by omega
                exact ⟨j + 1, j + 1 + 1, _, rfl, by omega, by omega, by omega, by go_num, HKp'.out.setOther _ _ hne, by rw [← irow_set]; exact HKc'.out.set (j + 1) _, HRS.out _ (by rw [HL.out]; omega), below_drewN (HBl'.out.setCell hc1 _) _⟩
        · have hjl1 : ¬ (j1 : Int) ≤ bb.length := by omega
          go_wp2
          go_roundg (aa.length - (i + 1))
          case measure => omega
          case rel => exact ⟨i + 1, i1 + 1, gc, gp, _, _, rfl, by omega, by omega, by omega, by go_num, rfl, rfl, hc1, hp1, fun e => hne e.symm, HKc.out, HKp.out, fun t => by
            by_cases h : t < N
            · exact .inl (HRC.out t (by omega))
            · exact .inr h, HBl.out⟩
    · obtain rfl : i = aa.length := by omega
      have p0 := HKp.out.icell bb.length (by omega)
      rw [(HRP.out bb.length).resolve_right (by omega)] at p0
      have hlt1 : ¬ (i1 : Int) ≤ aa.length := by omega
      go_wp2
      go_ret
      exact ⟨rfl, HBl.out⟩
end Go.Proofs.Qxb6603052a
