/-
  THE WALK OF zzb1Block.
-/
import Derived.Test.Qxb6603052aW7
namespace Go.Proofs.Qxb6603052a
open Go.RowKit
open My (F D L Vd sn back shortestOps play stepO same eqAt)

theorem lay_rep32 (aa bb : List ByteArray) (r i j : Nat) : lay aa bb (List.replicate r 32) i j = (List.range r).map fun u => ((32 : UInt8), ln aa (i + u)) := by
  apply List.ext_getElem?
  intro t
  rw [lay_get]
  by_cases h : t < r
  · rw [List.getElem?_replicate, if_pos h, List.getElem?_map, List.getElem?_range h, List.take_replicate, cntA_rep]
    simp only [Option.map_some]
    rw [if_neg (by decide), if_neg (by decide), Nat.min_eq_left (by omega)]
  · rw [List.getElem?_eq_none (by simp; omega), List.getElem?_eq_none (by simp; omega)]; rfl

/-- The edits of the block. -/
def eblk (aa bb : List ByteArray) (p y z s : Nat) : List Ed :=
  ((List.range p).map fun u => ((32 : UInt8), ln aa u)) ++ (((List.range y).map fun u => ((45 : UInt8), ln aa (p + u))) ++ (((List.range z).map fun u => ((43 : UInt8), ln bb (p + u))) ++ ((List.range s).map fun u => ((32 : UInt8), ln aa (p + y + u)))))

theorem eblk_lay (aa bb : List ByteArray) (p y z s : Nat) : lay aa bb (List.replicate p 32 ++ (List.replicate y 45 ++ (List.replicate z 43 ++ List.replicate s 32))) 0 0 = eblk aa bb p y z s := by
  rw [lay_append, lay_append, lay_append, lay_rep32, lay_rep45, lay_rep43, lay_rep32]
  simp only [cntA_rep, cntB_rep, n3243, n3245, n4543, if_true, if_false, Nat.zero_add, Nat.add_zero]
  rfl

theorem eblk_length (aa bb : List ByteArray) (p y z s : Nat) : (eblk aa bb p y z s).length = p + y + z + s := by simp [eblk]; omega
theorem eblk_1 (aa bb : List ByteArray) (p y z s u : Nat) (h : u < p) : (eblk aa bb p y z s)[u]? = some (32, ln aa u) := by
  unfold eblk; rw [List.getElem?_append_left (by simpa using h)]; simp [h]
theorem eblk_2 (aa bb : List ByteArray) (p y z s u : Nat) (h : u < y) : (eblk aa bb p y z s)[p + u]? = some (45, ln aa (p + u)) := by
  unfold eblk; rw [List.getElem?_append_right (by simp), List.getElem?_append_left (by simp; omega)]; simp [h]
theorem eblk_3 (aa bb : List ByteArray) (p y z s u : Nat) (h : u < z) : (eblk aa bb p y z s)[p + y + u]? = some (43, ln bb (p + u)) := by
  unfold eblk; rw [List.getElem?_append_right (by simp; omega), List.getElem?_append_right (by simp; omega), List.getElem?_append_left (by simp; omega)]
  simp [show p + y + u - p - y = u by omega, h]
theorem eblk_4 (aa bb : List ByteArray) (p y z s u : Nat) (h : u < s) : (eblk aa bb p y z s)[p + y + z + u]? = some (32, ln aa (p + y + u)) := by
  unfold eblk; rw [List.getElem?_append_right (by simp; omega), List.getElem?_append_right (by simp; omega), List.getElem?_append_right (by simp; omega)]
  simp [show p + y + z + u - p - y - z = u by omega, h]

def EAt (w : World) (gk gl : Nat) (es : List Ed) : Prop := ∀ i e, es[i]? = some e → w.cell? ⟨gk, i, none⟩ = some (.int .u8 e.1.toNat) ∧ w.cell? ⟨gl, i, none⟩ = some (.string e.2)

set_option maxHeartbeats 4000000 in
set_option maxRecDepth 100000 in
theorem block_any (gk ck gl cl : Nat) (pa pb : Option Addr) (ca cb p s y z M : Nat) (aa bb : List ByteArray) (w : World) (hla : aa.length ≤ 8192) (hlb : bb.length ≤ 8192)
    (hy : p + y + s = aa.length) (hz : p + z + s = bb.length) (hM : p + y + z + s = M) (hE : EAt w gk gl (eblk aa bb p y z s)) (ha : SAt w pa aa) (hb : SAt w pb bb) :
    Calls Try.prog 13 #[.slice (some ⟨gk, 0, none⟩) M ck, .slice (some ⟨gl, 0, none⟩) M cl, .slice pa aa.length ca, .slice pb bb.length cb, .int .i64 p, .int .i64 s] w (RetTD w) := by
  have HE := hid hE
  have HA := hid ha
  have HB := hid hb
  clear hE ha hb
  have e0 : ((M : Int) != (aa.length : Int) + bb.length - p - s) = false := by rw [bne_eq_false_iff_eq]; omega
  have e1 : ((M : Int) != (M : Int)) = false := by simp
  have HY := hid hy
  have HZ := hid hz
  have HM := hid hM
  have b1 : p ≤ 8192 := by omega
  have b2 : s ≤ 8192 := by omega
  have b3 : M ≤ 16384 := by omega
  have b4 : p + s ≤ aa.length := by omega
  have b5 : p + s ≤ bb.length := by omega
  clear hy hz hM
  go_enter Try.func13, Try.ntmps13
  go_wp2_with (fail)
  clear e0 e1
  go_loopg [15, 16] (p - 0) (fun gm iv jv wr => ∃ i j : Nat, gm = p - j ∧ 0 ≤ j ∧ j ≤ p ∧ i = j ∧ iv = .int .i64 i ∧ jv = .int .i64 j ∧ ∃ n, wr = w.drewN n)
  case atStart => exact ⟨_, 0, rfl, by omega, by first | omega | (have := HY.out; have := HZ.out; omega), rfl, rfl, rfl, 0, rfl⟩
  case round =>
    obtain ⟨i, j, rfl, hj1, hj2, hij, rfl, rfl, n, rfl⟩ := hrel
    have HIJ := hid hij
    have hiM : i ≤ M := by have := HY.out; have := HZ.out; have := HM.out; omega
    clear hij
    by_cases hlt : j < p
    · have hjl : j < aa.length := by omega
      obtain ⟨x0, x1⟩ := HE.out i (32, aa[j]) (by rw [HIJ.out, eblk_1 _ _ _ _ _ _ _ hlt, ln_get hjl])
      have x0' : w.cell? ⟨gk, i, none⟩ = some (.int .u8 32) := x0
      have x1' : w.cell? ⟨gl, i, none⟩ = some (.string aa[j]) := x1
      obtain ⟨ba, oa, rfl, hca⟩ := HA.out j hjl
      have heq0 : (aa[j].toList == aa[j].toList) = true := by simp
      have hiM2 : (i : Int) < M := by have := HY.out; have := HZ.out; have := HM.out; have := HIJ.out; omega
      have hlt1 : (j : Int) < p := by omega
      clear x0 x1
      go_wp2_with (fail)
      go_quiet (fail)
      go_wp2_with (fail)
      go_roundg (p - (j + 1))
      case measure => omega
      case rel => exact ⟨i + 1, j + 1, rfl, by omega, by omega, by have := HIJ.out; omega, by go_num, by go_num, n + nq, by simp⟩
    · have hlt1 : ¬ (j : Int) < p := by omega
      have hjh : j = p := by omega
      have HJH := hid hjh
      clear hjh hlt
      go_wp2_with (fail)
      go_loopg [15, 17] ((aa.length - s) - p) (fun gm iv jv wr => ∃ i j : Nat, gm = (aa.length - s) - j ∧ p ≤ j ∧ j ≤ (aa.length - s) ∧ i = j ∧ iv = .int .i64 i ∧ jv = .int .i64 j ∧ ∃ n, wr = w.drewN n)
      case atStart => exact ⟨_, p, rfl, by omega, by first | omega | (have := HY.out; have := HZ.out; omega), by have := HIJ.out; have := HJH.out; omega, rfl, rfl, n, rfl⟩
      case round =>
        obtain ⟨i, j, rfl, hj1, hj2, hij, rfl, rfl, n, rfl⟩ := hrel
        have HIJ := hid hij
        have hiM : i ≤ M := by have := HY.out; have := HZ.out; have := HM.out; omega
        clear hij
        by_cases hlt : j < (aa.length - s)
        · have hjl : j < aa.length := by omega
          obtain ⟨x0, x1⟩ := HE.out i (45, aa[j]) (by rw [show i = p + (j - p) by have := HIJ.out; omega, eblk_2 _ _ _ _ _ _ _ (by have := HY.out; omega), ← ln_get hjl]; congr 3; omega)
          have x0' : w.cell? ⟨gk, i, none⟩ = some (.int .u8 45) := x0
          have x1' : w.cell? ⟨gl, i, none⟩ = some (.string aa[j]) := x1
          obtain ⟨ba, oa, rfl, hca⟩ := HA.out j hjl
          have heq0 : (aa[j].toList == aa[j].toList) = true := by simp
          have hiM2 : (i : Int) < M := by have := HY.out; have := HZ.out; have := HM.out; have := HIJ.out; omega
          have hlt1 : (j : Int) < (aa.length : Int) - s := by omega
          clear x0 x1
          go_wp2_with (fail)
          go_quiet (fail)
          go_wp2_with (fail)
          go_roundg ((aa.length - s) - (j + 1))
          case measure => omega
          case rel => exact ⟨i + 1, j + 1, rfl, by omega, by omega, by have := HIJ.out; omega, by go_num, by go_num, n + nq, by simp⟩
        · have hlt1 : ¬ (j : Int) < (aa.length : Int) - s := by omega
          have hjh : j = (aa.length - s) := by omega
          have HJH := hid hjh
          clear hjh hlt
          go_wp2_with (fail)
          go_loopg [15, 18] ((bb.length - s) - p) (fun gm iv jv wr => ∃ i j : Nat, gm = (bb.length - s) - j ∧ p ≤ j ∧ j ≤ (bb.length - s) ∧ i = y + j ∧ iv = .int .i64 i ∧ jv = .int .i64 j ∧ ∃ n, wr = w.drewN n)
          case atStart => exact ⟨_, p, rfl, by omega, by first | omega | (have := HY.out; have := HZ.out; omega), by have := HIJ.out; have := HJH.out; have := HY.out; omega, rfl, rfl, n, rfl⟩
          case round =>
            obtain ⟨i, j, rfl, hj1, hj2, hij, rfl, rfl, n, rfl⟩ := hrel
            have HIJ := hid hij
            have hiM : i ≤ M := by have := HY.out; have := HZ.out; have := HM.out; omega
            clear hij
            by_cases hlt : j < (bb.length - s)
            · have hjl : j < bb.length := by omega
              obtain ⟨x0, x1⟩ := HE.out i (43, bb[j]) (by rw [show i = p + y + (j - p) by have := HIJ.out; omega, eblk_3 _ _ _ _ _ _ _ (by have := HZ.out; omega), ← ln_get hjl]; congr 3; omega)
              have x0' : w.cell? ⟨gk, i, none⟩ = some (.int .u8 43) := x0
              have x1' : w.cell? ⟨gl, i, none⟩ = some (.string bb[j]) := x1
              obtain ⟨ba, oa, rfl, hca⟩ := HB.out j hjl
              have heq0 : (bb[j].toList == bb[j].toList) = true := by simp
              have hiM2 : (i : Int) < M := by have := HY.out; have := HZ.out; have := HM.out; have := HIJ.out; omega
              have hlt1 : (j : Int) < (bb.length : Int) - s := by omega
              clear x0 x1
              go_wp2_with (fail)
              go_quiet (fail)
              go_wp2_with (fail)
              go_roundg ((bb.length - s) - (j + 1))
              case measure => omega
              case rel => exact ⟨i + 1, j + 1, rfl, by omega, by omega, by have := HIJ.out; omega, by go_num, by go_num, n + nq, by simp⟩
            · have hlt1 : ¬ (j : Int) < (bb.length : Int) - s := by omega
              have hjh : j = (bb.length - s) := by omega
              have HJH := hid hjh
              clear hjh hlt
              go_wp2_with (fail)
              go_loopg [15, 19] (aa.length - (aa.length - s)) (fun gm iv jv wr => ∃ i j : Nat, gm = aa.length - j ∧ (aa.length - s) ≤ j ∧ j ≤ aa.length ∧ i = z + j ∧ iv = .int .i64 i ∧ jv = .int .i64 j ∧ ∃ n, wr = w.drewN n)
              case atStart => exact ⟨_, (aa.length - s), rfl, by omega, by first | omega | (have := HY.out; have := HZ.out; omega), by have := HIJ.out; have := HJH.out; have := HY.out; have := HZ.out; omega, rfl, by go_num, n, rfl⟩
              case round =>
                obtain ⟨i, j, rfl, hj1, hj2, hij, rfl, rfl, n, rfl⟩ := hrel
                have HIJ := hid hij
                have hiM : i ≤ M := by have := HY.out; have := HZ.out; have := HM.out; omega
                clear hij
                by_cases hlt : j < aa.length
                · have hjl : j < aa.length := by omega
                  obtain ⟨x0, x1⟩ := HE.out i (32, aa[j]) (by rw [show i = p + y + z + (j - (p + y)) by have := HIJ.out; have := HY.out; omega, eblk_4 _ _ _ _ _ _ _ (by have := HY.out; omega), ← ln_get hjl]; congr 3; have := HY.out; omega)
                  have x0' : w.cell? ⟨gk, i, none⟩ = some (.int .u8 32) := x0
                  have x1' : w.cell? ⟨gl, i, none⟩ = some (.string aa[j]) := x1
                  obtain ⟨ba, oa, rfl, hca⟩ := HA.out j hjl
                  have heq0 : (aa[j].toList == aa[j].toList) = true := by simp
                  have hiM2 : (i : Int) < M := by have := HY.out; have := HZ.out; have := HM.out; have := HIJ.out; omega
                  have hlt1 : (j : Int) < aa.length := by omega
                  clear x0 x1
                  go_wp2_with (fail)
                  go_quiet (fail)
                  go_wp2_with (fail)
                  go_roundg (aa.length - (j + 1))
                  case measure => omega
                  case rel => exact ⟨i + 1, j + 1, rfl, by omega, by omega, by have := HIJ.out; omega, by go_num, by go_num, n + nq, by simp⟩
                · have hlt1 : ¬ (j : Int) < aa.length := by omega
                  have hjh : j = aa.length := by omega
                  have HJH := hid hjh
                  clear hjh hlt
                  go_wp2_with (fail)
                  go_ret
                  exact ⟨rfl, n, rfl⟩
end Go.Proofs.Qxb6603052a
