/-
  THE WALK OF zzb1Walks.
-/
import Derived.Test.Qxb6603052aW6
namespace Go.Proofs.Qxb6603052a
open Go.RowKit
open My (F D L Vd sn back shortestOps play stepO same eqAt)

def RetTD (w : World) (e : Ending) (w' : World) : Prop := e = .returned (.bool true) ∧ ∃ n, w' = w.drewN n

def KAt (w : World) (g : Nat) (l : List UInt8) : Prop := ∀ i o, l[i]? = some o → w.cell? ⟨g, i, none⟩ = some (.int .u8 o.toNat)
def LAt (w : World) (g : Nat) (es : List Ed) : Prop := ∀ i e, es[i]? = some e → w.cell? ⟨g, i, none⟩ = some (.string e.2)

theorem u8_eq (o d : UInt8) : (((o.toNat : Nat) : Int) == ((d.toNat : Nat) : Int)) = decide (o = d) := by
  by_cases h : o = d
  · subst h; simp
  · rw [decide_eq_false h]
    apply beq_eq_false_iff_ne.2
    intro h2
    exact h (UInt8.toNat.inj (by omega))

set_option maxHeartbeats 4000000 in
set_option maxRecDepth 100000 in
theorem walks_any (gk ck gl cl : Nat) (pa pb : Option Addr) (ca cb : Nat) (aa bb : List ByteArray) (l : List UInt8) (w : World) (hla : aa.length ≤ 8192) (hlb : bb.length ≤ 8192) (hll : l.length ≤ 60000)
    (hp : play aa bb l (0, 0) = some (aa.length, bb.length)) (hK : KAt w gk l) (hL : LAt w gl (lay aa bb l 0 0)) (ha : SAt w pa aa) (hb : SAt w pb bb) (M : Nat) (hM : l.length = M) :
    Calls Try.prog 11 #[.slice (some ⟨gk, 0, none⟩) M ck, .slice (some ⟨gl, 0, none⟩) M cl, .slice pa aa.length ca, .slice pb bb.length cb] w (RetTD w) := by
  have HPL := hid hp
  have HK := hid hK
  have HL := hid hL
  have HA := hid ha
  have HB := hid hb
  have HM := hid hM
  rw [hM] at hll
  clear hp hK hL ha hb hM
  have e0 : ((M : Int) != (M : Int)) = false := by simp
  go_enter Try.func11, Try.ntmps11
  go_wp2_with (fail)
  clear e0
  go_loopg [9, 10, 11] M (fun gm iv jv tv wr => ∃ t i j : Nat, gm = M - t ∧ t ≤ M ∧ play aa bb (l.take t) (0, 0) = some (i, j) ∧ iv = .int .i64 i ∧ jv = .int .i64 j ∧ tv = .int .i64 t ∧ i ≤ aa.length ∧ j ≤ bb.length ∧ ∃ n, wr = w.drewN n)
  case atStart => exact ⟨0, 0, 0, rfl, by omega, rfl, rfl, rfl, rfl, by omega, by omega, 0, rfl⟩
  case round =>
    obtain ⟨t, i, j, rfl, ht, hpl, rfl, rfl, rfl, hi, hj, n, rfl⟩ := hrel
    by_cases hlt : t < M
    · have htl : t < l.length := by rw [HM.out]; exact hlt
      obtain ⟨o, ho⟩ : ∃ o, l[t]? = some o := ⟨l[t], List.getElem?_eq_getElem htl⟩
      obtain ⟨r, hr1, hr2⟩ := My.play_at aa bb l _ _ HPL.out t o ho (i, j) hpl
      have hij := play_cnt aa bb _ _ _ _ hpl
      simp only [Nat.zero_add, Prod.mk.injEq] at hij
      have hln := lay_get aa bb l 0 0 t
      rw [ho, Nat.zero_add, Nat.zero_add, ← hij.1, ← hij.2] at hln
      have x0 := HK.out t o ho
      have x1 := HL.out t _ hln
      simp only at x1
      have HR2 := hid hr2
      have hlt1 : (t : Int) < M := by omega
      clear hr2 hpl hij htl ho hln
      have q32 := u8_eq o 32
      have q45 := u8_eq o 45
      have q43 := u8_eq o 43
      rcases My.stepO_inv aa bb o i j r hr1 with ⟨h1, h2, h3⟩ | ⟨h1, h2, h3⟩ | ⟨h1, h2, h3⟩
      · have hlt2 := My.eqAt_lt h2
        have k1 : (((o.toNat : Nat) : Int) == 32) = true := q32.trans (decide_eq_true h1)
        rw [if_neg (by rw [h1]; decide), ln_get hlt2.1] at x1
        obtain ⟨ba, oa, rfl, hca⟩ := HA.out i hlt2.1
        obtain ⟨bb', ob', rfl, hcb⟩ := HB.out j hlt2.2
        have heq : (bb[j].toList == aa[i].toList) = true := by
          rw [My.eqAt_iff hlt2.1 hlt2.2] at h2; rw [bytes_eq]; exact decide_eq_true (of_decide_eq_true h2).symm
        have heq0 : (aa[i].toList == aa[i].toList) = true := by simp
        have y1 : ¬ (aa.length : Int) ≤ i := by omega
        have y2 : ¬ (bb.length : Int) ≤ j := by omega
        have y1' : decide ((aa.length : Int) ≤ i) = false := decide_eq_false y1
        have y2' : decide ((bb.length : Int) ≤ j) = false := decide_eq_false y2
        have H3 := hid h3
        obtain ⟨z1, z2⟩ := hlt2
        clear hr1 h1 h2 h3 q32 q45 q43
        go_wp2_with (fail)
        go_quiet (fail)
        go_wp2_with (fail)
        go_roundg (M - (t + 1))
        case measure => omega
        case rel => exact ⟨t + 1, i + 1, j + 1, rfl, by omega, by rw [HR2.out, H3.out], by go_num, by go_num, by go_num, by omega, by omega, n + nq, by simp⟩
      · have k1 : (((o.toNat : Nat) : Int) == 32) = false := q32.trans (decide_eq_false (by rw [h1]; decide))
        have k2 : (((o.toNat : Nat) : Int) == 45) = true := q45.trans (decide_eq_true h1)
        rw [if_neg (by rw [h1]; decide), ln_get h2] at x1
        obtain ⟨ba, oa, rfl, hca⟩ := HA.out i h2
        have heq0 : (aa[i].toList == aa[i].toList) = true := by simp
        have y1 : ¬ (aa.length : Int) ≤ i := by omega
        have y1' : decide ((aa.length : Int) ≤ i) = false := decide_eq_false y1
        have H3 := hid h3
        clear hr1 h1 h3 q32 q45 q43
        go_wp2_with (fail)
        go_quiet (fail)
        go_wp2_with (fail)
        go_roundg (M - (t + 1))
        case measure => omega
        case rel => exact ⟨t + 1, i + 1, j, rfl, by omega, by rw [HR2.out, H3.out], by go_num, rfl, by go_num, by omega, by omega, n + nq, by simp⟩
      · have k1 : (((o.toNat : Nat) : Int) == 32) = false := q32.trans (decide_eq_false (by rw [h1]; decide))
        have k2 : (((o.toNat : Nat) : Int) == 45) = false := q45.trans (decide_eq_false (by rw [h1]; decide))
        have k3 : (((o.toNat : Nat) : Int) == 43) = true := q43.trans (decide_eq_true h1)
        rw [if_pos h1, ln_get h2] at x1
        obtain ⟨ba, oa, rfl, hca⟩ := HB.out j h2
        have heq0 : (bb[j].toList == bb[j].toList) = true := by simp
        have y1 : ¬ (bb.length : Int) ≤ j := by omega
        have y1' : decide ((bb.length : Int) ≤ j) = false := decide_eq_false y1
        have H3 := hid h3
        clear hr1 h1 h3 q32 q45 q43
        go_wp2_with (fail)
        go_quiet (fail)
        go_wp2_with (fail)
        go_roundg (M - (t + 1))
        case measure => omega
        case rel => exact ⟨t + 1, i, j + 1, rfl, by omega, by rw [HR2.out, H3.out], rfl, by go_num, by go_num, by omega, by omega, n + nq, by simp⟩
    · have htm : t = l.length := by rw [HM.out]; omega
      rw [htm, List.take_length, HPL.out] at hpl
      simp only [Option.some.injEq, Prod.mk.injEq] at hpl
      obtain ⟨rfl, rfl⟩ := hpl
      have hlt1 : ¬ (t : Int) < M := by omega
      have e1 : ((aa.length : Int) == (aa.length : Int)) = true := by simp
      have e2 : ((bb.length : Int) == (bb.length : Int)) = true := by simp
      clear htm
      go_wp2_with (fail)
      go_ret
      exact ⟨rfl, n, rfl⟩
end Go.Proofs.Qxb6603052a
