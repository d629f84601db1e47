/-
  THE WALK OF zzReplay, AND OF THE TWO-SLICE BOUND ON TOTAL LENGTH.
-/
import Derived.Test.Qxb6602717aPlay
import Derived.Test.Qxb6602717aW1
import Derived.Test.Qxb6602717aW6
namespace Go.Proofs.Qxb6602717a
open Go.RowKit
open My (L eqAt play stepO)

def RetNB (x : Nat) (w : World) (e : Ending) (w' : World) : Prop := e = .returned (.tuple #[.int .i64 x, .bool true]) ∧ ∃ n, w' = w.drewN n

set_option maxHeartbeats 2000000 in
set_option maxRecDepth 100000 in
theorem replay_any (v a b : Option Addr) (cv ca cbb M : Nat) (ops : List UInt8) (aa bb : List ByteArray) (w : World) (hM : ops.length = M) (hl : M ≤ 60000) (hla : aa.length ≤ 8192) (hlb : bb.length ≤ 8192) (hv : SAt w v (ops.map ob)) (ha : SAt w a aa) (hb : SAt w b bb)
    (hp : play aa bb ops (0, 0) = some (aa.length, bb.length)) :
    Calls Try.prog 14 #[.slice v M cv, .slice a aa.length ca, .slice b bb.length cbb] w (RetNB (ops.count 32) w) := by
  have HV := hid hv
  have HA := hid ha
  have HB := hid hb
  have HP := hid hp
  have HM := hid hM
  clear hv ha hb hp hM
  go_enter Try.func14, Try.ntmps14
  go_wp2
  go_loopg [8, 9, 10, 11] M (fun gm iv jv kv tv wr => ∃ t i j k : Nat, gm = M - t ∧ t ≤ M ∧ play aa bb (ops.take t) (0, 0) = some (i, j) ∧ k = (ops.take t).count 32 ∧ iv = .int .i64 i ∧ jv = .int .i64 j ∧ kv = .int .i64 k ∧ tv = .int .i64 t ∧ i ≤ aa.length ∧ j ≤ bb.length ∧ k ≤ t ∧ ∃ n, wr = w.drewN n)
  case atStart => exact ⟨0, 0, 0, 0, rfl, by omega, rfl, rfl, rfl, rfl, rfl, rfl, by omega, by omega, by omega, 0, rfl⟩
  case round =>
    obtain ⟨t, i, j, k, rfl, ht, hpl, hk, rfl, rfl, rfl, rfl, hi, hj, hkt, n, rfl⟩ := hrel
    have HPL := hid hpl
    have HK := hid hk
    clear hpl hk
    by_cases hlt : t < M
    · have htl : t < ops.length := by rw [HM.out]; exact hlt
      obtain ⟨o, ho⟩ : ∃ o, ops[t]? = some o := ⟨ops[t], List.getElem?_eq_getElem htl⟩
      obtain ⟨r, hr1, hr2⟩ := My.play_at aa bb ops _ _ HP.out t o ho (i, j) HPL.out
      obtain ⟨bv, ov, rfl, hcv⟩ := HV.out t (by simpa using htl)
      have hcv' : (w.drewN n).cell? ⟨bv, ov + t, none⟩ = some (.string (ob o)) := by
        have e : (ops.map ob)[t]'(by simpa using htl) = ob o := by
          have : (ops.map ob)[t]? = some (ob o) := by rw [List.getElem?_map, ho]; rfl
          rw [List.getElem?_eq_getElem (by simpa using htl)] at this
          exact Option.some.inj this
        rw [e] at hcv; exact hcv
      have hcnt : (ops.take (t + 1)).count 32 = k + if o = 32 then 1 else 0 := by
        rw [List.take_add_one, ho, List.count_append, HK.out]
        by_cases e : o = 32
        · subst e; rfl
        · simp [e]
      have HCN := hid hcnt
      have HR2 := hid hr2
      have hlt1 : (t : Int) < M := by omega
      clear hcnt hr2 hcv htl ho
      rcases My.stepO_inv aa bb o i j r hr1 with ⟨h1, h2, h3⟩ | ⟨h1, h2, h3⟩ | ⟨h1, h2, h3⟩
      · have hlt2 := My.eqAt_lt h2
        have k1 : ((ob o).toList == [32]) = true := by rw [ob_eq]; exact decide_eq_true h1
        obtain ⟨ba, oa, rfl, hca⟩ := HA.out i hlt2.1
        obtain ⟨bb', ob', rfl, hcb⟩ := HB.out j hlt2.2
        have heq : (aa[i].toList == bb[j].toList) = true := by
          rw [My.eqAt_iff hlt2.1 hlt2.2] at h2; rw [bytes_eq]; exact h2
        have x1 : ¬ (aa.length : Int) ≤ i := by omega
        have x2 : ¬ (bb.length : Int) ≤ j := by omega
        have x1' : decide ((aa.length : Int) ≤ i) = false := decide_eq_false x1
        have x2' : decide ((bb.length : Int) ≤ j) = false := decide_eq_false x2
        have H3 := hid h3
        have H1 := hid h1
        obtain ⟨y1, y2⟩ := hlt2
        clear hr1 h1 h2 h3
        go_wp2
        go_quiet (fail)
        go_wp2
        go_roundg (M - (t + 1))
        case measure => omega
        case rel => exact ⟨t + 1, i + 1, j + 1, k + 1, rfl, by omega, by rw [HR2.out, H3.out], by rw [HCN.out, if_pos H1.out], by go_num, by go_num, by go_num, by go_num, by omega, by omega, by omega, _, rfl⟩
      · have k1 : ((ob o).toList == [32]) = false := by rw [ob_eq]; exact decide_eq_false (by rw [h1]; decide)
        have k2 : ((ob o).toList == [45]) = true := by rw [ob_eq]; exact decide_eq_true h1
        have x1 : ¬ (aa.length : Int) ≤ i := by omega
        have H3 := hid h3
        have H1 := hid h1
        clear hr1 h1 h3
        go_wp2
        go_roundg (M - (t + 1))
        case measure => omega
        case rel => exact ⟨t + 1, i + 1, j, k, rfl, by omega, by rw [HR2.out, H3.out], by rw [HCN.out, if_neg (by rw [H1.out]; decide)]; rfl, by go_num, rfl, rfl, by go_num, by omega, by omega, by omega, _, rfl⟩
      · have k1 : ((ob o).toList == [32]) = false := by rw [ob_eq]; exact decide_eq_false (by rw [h1]; decide)
        have k2 : ((ob o).toList == [45]) = false := by rw [ob_eq]; exact decide_eq_false (by rw [h1]; decide)
        have k3 : ((ob o).toList == [43]) = true := by rw [ob_eq]; exact decide_eq_true h1
        have x1 : ¬ (bb.length : Int) ≤ j := by omega
        have H3 := hid h3
        have H1 := hid h1
        clear hr1 h1 h3
        go_wp2
        go_roundg (M - (t + 1))
        case measure => omega
        case rel => exact ⟨t + 1, i, j + 1, k, rfl, by omega, by rw [HR2.out, H3.out], by rw [HCN.out, if_neg (by rw [H1.out]; decide)]; rfl, rfl, by go_num, rfl, by go_num, by omega, by omega, by omega, _, rfl⟩
    · have htm : t = ops.length := by rw [HM.out]; omega
      have h1 := HPL.out
      rw [htm, List.take_length, HP.out] at h1
      simp only [Option.some.injEq, Prod.mk.injEq] at h1
      obtain ⟨rfl, rfl⟩ := h1
      have hkk := HK.out
      rw [htm, List.take_length] at hkk
      have HKK := hid hkk
      have hlt1 : ¬ (t : Int) < M := by omega
      clear hkk htm
      go_wp2
      go_ret2
      exact ⟨by rw [← HKK.out]; simp, _, rfl⟩

end Go.Proofs.Qxb6602717a
