/-
  THE WALK OF zzb1Common.
-/
import Derived.Test.Qxb6603052aW1
import Derived.Test.Qxb6603052aPlain
namespace Go.Proofs.Qxb6603052a
open Go.RowKit
open My (eqAt pre suf)

theorem eqAt_bytes {aa bb : List ByteArray} {i j : Nat} (hi : i < aa.length) (hj : j < bb.length) : eqAt aa bb i j = (aa[i].toList == bb[j].toList) := by
  rw [My.eqAt_iff hi hj, bytes_eq]

def RetPS (p s : Nat) (w : World) (e : Ending) (w' : World) : Prop := e = .returned (.tuple #[.int .i64 p, .int .i64 s]) ∧ ∃ n, w' = w.drewN n

set_option maxHeartbeats 2000000 in
set_option maxRecDepth 100000 in
theorem common_any (a b : Option Addr) (ca cbb : Nat) (aa bb : List ByteArray) (w : World) (hla : aa.length ≤ 8192) (hlb : bb.length ≤ 8192) (ha : SAt w a aa) (hb : SAt w b bb) :
    Calls Try.prog 16 #[.slice a aa.length ca, .slice b bb.length cbb] w (RetPS (pre aa bb) (suf aa bb (pre aa bb)) w) := by
  have HA := hid ha
  have HB := hid hb
  clear ha hb
  go_enter Try.func16, Try.ntmps16
  go_wp2
  go_loopg [6] aa.length (fun gm pv wr => ∃ p : Nat, gm = aa.length - p ∧ pv = .int .i64 p ∧ p ≤ aa.length ∧ p ≤ bb.length ∧ (∀ i, i < p → eqAt aa bb i i = true) ∧ ∃ n, wr = w.drewN n)
  case atStart => exact ⟨0, rfl, rfl, by omega, by omega, fun i hi => by omega, 0, rfl⟩
  case round =>
    obtain ⟨p, rfl, rfl, hp1, hp2, hpe, n, rfl⟩ := hrel
    have HPE := hid hpe
    clear hpe
    generalize hS : eqAt aa bb p p = S
    have HS := hid hS
    clear hS
    go_wp2
    go_cut [28] (fun t wc => t = .bool S ∧ ∃ n, wc = w.drewN n)
    case first =>
      by_cases gx : p < aa.length
      · by_cases gy : p < bb.length
        · obtain ⟨ba, oa, rfl, hca'⟩ := HA.out p gx
          obtain ⟨bb', ob, rfl, hcb'⟩ := HB.out p gy
          have gx' : (p : Int) < aa.length := by omega
          have gy' : (p : Int) < bb.length := by omega
          have HE := hid (show S = (aa[p].toList == bb[p].toList) by rw [← HS.out, eqAt_bytes gx gy])
          go_quiet (fail)
          go_wp2
          go_meet
          exact ⟨by rw [HE.out], n + nq, by simp⟩
        · have HE := hid (show S = false by rw [← HS.out]; apply Bool.eq_false_iff.2; intro hc; have := My.eqAt_lt hc; omega)
          have gx' : (p : Int) < aa.length := by omega
          have gy' : decide ((p : Int) < bb.length) = false := by simpa using gy
          go_quiet (fail)
          go_wp2
          go_meet
          exact ⟨by rw [HE.out], n + nq, by simp⟩
      · have HE := hid (show S = false by rw [← HS.out]; apply Bool.eq_false_iff.2; intro hc; have := My.eqAt_lt hc; omega)
        have gx' : decide ((p : Int) < aa.length) = false := by simpa using gx
        go_quiet (fail)
        go_wp2
        go_meet
        exact ⟨by rw [HE.out], n + nq, by simp⟩
    case rest =>
      obtain ⟨rfl, nq, rfl⟩ := hcut
      cases hSS : S with
      | true =>
        have hss := HS.out.trans hSS
        have hlt := My.eqAt_lt hss
        have HPE2 := hid (show ∀ i, i < p + 1 → eqAt aa bb i i = true from fun i hi => by
          by_cases e : i < p
          · exact HPE.out i e
          · obtain rfl : i = p := by omega
            exact hss)
        clear hss hSS HPE HS
        go_wp2
        go_roundg (aa.length - (p + 1))
        case measure => omega
        case rel => exact ⟨p + 1, rfl, by go_num, by omega, by omega, HPE2.out, _, rfl⟩
      | false =>
        have HP := hid (My.pre_unique aa bb p HPE.out (HS.out.trans hSS))
        clear hSS HS HPE
        go_wp2
        go_loopg [7] aa.length (fun gm sv wr => ∃ s : Nat, gm = aa.length - s ∧ sv = .int .i64 s ∧ s ≤ aa.length - p ∧ s ≤ bb.length - p ∧ (∀ i, i < s → i < aa.length - p ∧ i < bb.length - p ∧ eqAt aa bb (aa.length - 1 - i) (bb.length - 1 - i) = true) ∧ ∃ n, wr = w.drewN n)
        case atStart => exact ⟨0, rfl, rfl, by omega, by omega, fun i hi => by omega, _, rfl⟩
        case round =>
          obtain ⟨s, rfl, rfl, hs1, hs2, hse, n, rfl⟩ := hrel
          have HSE := hid hse
          clear hse
          generalize hS : decide (s < aa.length - p ∧ s < bb.length - p ∧ eqAt aa bb (aa.length - 1 - s) (bb.length - 1 - s) = true) = S
          have HS := hid hS
          clear hS
          go_wp2
          go_cut [63] (fun t wc => t = .bool S ∧ ∃ n, wc = w.drewN n)
          case first =>
            by_cases gx : s < aa.length - p
            · by_cases gy : s < bb.length - p
              · obtain ⟨ba, oa, rfl, hca'⟩ := HA.out (aa.length - 1 - s) (by omega)
                obtain ⟨bb', ob, rfl, hcb'⟩ := HB.out (bb.length - 1 - s) (by omega)
                have gx' : (s : Int) < (aa.length : Int) - p := by omega
                have gy' : (s : Int) < (bb.length : Int) - p := by omega
                have HE := hid (show S = (aa[aa.length - 1 - s].toList == bb[bb.length - 1 - s].toList) by
                  rw [← HS.out, ← eqAt_bytes (by omega) (by omega)]
                  simp [gx, gy])
                go_quiet (fail)
                go_wp2
                go_meet
                exact ⟨by rw [HE.out], n + nq, by simp⟩
              · have HE := hid (show S = false by rw [← HS.out]; exact decide_eq_false (by omega))
                have gx' : (s : Int) < (aa.length : Int) - p := by omega
                have gy' : decide ((s : Int) < (bb.length : Int) - p) = false := decide_eq_false (by omega)
                go_quiet (fail)
                go_wp2
                go_meet
                exact ⟨by rw [HE.out], n + nq, by simp⟩
            · have HE := hid (show S = false by rw [← HS.out]; exact decide_eq_false (by omega))
              have gx' : decide ((s : Int) < (aa.length : Int) - p) = false := decide_eq_false (by omega)
              go_quiet (fail)
              go_wp2
              go_meet
              exact ⟨by rw [HE.out], n + nq, by simp⟩
          case rest =>
            obtain ⟨rfl, nq, rfl⟩ := hcut
            cases hSS : S with
            | true =>
              have hss := of_decide_eq_true (HS.out.trans hSS)
              have HSE2 := hid (show ∀ i, i < s + 1 → i < aa.length - p ∧ i < bb.length - p ∧ eqAt aa bb (aa.length - 1 - i) (bb.length - 1 - i) = true from fun i hi => by
                by_cases e : i < s
                · exact HSE.out i e
                · obtain rfl : i = s := by omega
                  exact hss)
              obtain ⟨hss1, hss2, _⟩ := hss
              clear hSS HSE HS
              go_wp2
              go_roundg (aa.length - (s + 1))
              case measure => omega
              case rel => exact ⟨s + 1, rfl, by go_num, by omega, by omega, HSE2.out, _, rfl⟩
            | false =>
              have HSU := hid (My.suf_unique aa bb p s HSE.out (of_decide_eq_false (HS.out.trans hSS)))
              clear hSS HS HSE
              go_wp2
              go_ret2
              exact ⟨by rw [HP.out, HSU.out]; rfl, nq, rfl⟩
end Go.Proofs.Qxb6603052a
