/-
  THE WALK OF 'Hunks'.
-/
import Derived.Test.Qxb6602717aHun
import Derived.Test.Qxb6602717aW7
namespace Go.Proofs.Qxb6602717a
open Go.RowKit
open My (linesOf chg HInv EInv near)

theorem Try.info43 : (Try.prog.info? 43).map (fun i => (i.zero, i.size, i.bytes)) = some (some (.slice none 0 0), 1, 24) := by kernel_rfl
theorem Try.underlying40 : Try.prog.underlying 40 = some (.slice 43) := by kernel_rfl

def hunkV (g M : Nat) (p : Nat × Nat) : Value := .slice (some ⟨g, p.1 * 3, none⟩) (p.2 - p.1) (M - p.1)

def Hks (w : World) (LS : List (UInt8 × Nat × Nat)) (C : Nat) (e : Ending) (w' : World) : Prop :=
  ∃ g v H, e = .returned v ∧ w.heap.size ≤ g ∧ Blk w' g 37 (LS.flatMap lineCells) ∧ w'.ownsRow w.heap.size 43 1 v H.length (H.map (hunkV g LS.length)) ∧ HInv (chg LS) C LS.length LS.length H ∧ Below w.heap.size w w'

theorem hunk_one (g M : Nat) (H : List (Nat × Nat)) : ∀ u ∈ H.map (hunkV g M), u.oneCell' = true := by
  intro u hu
  obtain ⟨c, _, rfl⟩ := List.mem_map.1 hu
  rfl

set_option maxHeartbeats 4000000 in
set_option maxRecDepth 100000 in
theorem hunks_any (a b : Option Addr) (ca cbb C : Nat) (aa bb : List ByteArray) (w : World) (hla : aa.length ≤ 4096) (hlb : bb.length ≤ 4096) (hca : aa.length ≤ ca) (hcb : bb.length ≤ cbb) (hma : ca ≤ maxLen) (hmb : cbb ≤ maxLen) (hC : C ≤ 2305843009213693951) (ha : SAt w a aa) (hb : SAt w b bb) :
    Calls Try.prog 21 #[.slice a aa.length ca, .slice b bb.length cbb, .int .i64 C] w (Hks w (linesOf aa bb) C) := by
  have HLN := hid (lines_any a b ca cbb aa bb w (by omega) (by omega) hca hcb hma hmb ha hb)
  have hlb2 := (lines_bound aa bb).1
  generalize linesOf aa bb = LS at *
  clear ha hb
  go_enter Try.func21, Try.ntmps21
  go_wp2_with (fail)
  refine HLN.out.mono ?_
  rintro e w1 ⟨g, rfl, hg, hk, hb1⟩
  clear HLN
  obtain ⟨M, hM⟩ : ∃ M, LS.length = M := ⟨_, rfl⟩
  have HK := hid hk
  have HB1 := hid hb1
  have HM := hid hM
  rw [hM] at hlb2 ⊢
  have z1 := hb1.size
  have zg := hk.lt
  clear hk hb1 hM
  have hMb : M ≤ 16384 := by omega
  go_wp2_with (fail)
  go_loopg [8, 9] M (fun gm hv iv wr => ∃ i H, gm = M - i ∧ i ≤ M ∧ iv = .int .i64 (i : Nat) ∧ HInv (chg LS) C M i H ∧ wr.ownsRow w1.heap.size 43 1 hv H.length (H.map (hunkV g M)) ∧ Below w1.heap.size w1 wr)
  case atStart => exact ⟨0, [], rfl, by omega, rfl, HInv.start _ _ _, ⟨rfl, .inl ⟨rfl, rfl⟩⟩, Below.refl _ _⟩
  case round =>
    obtain ⟨i, H, rfl, hi, rfl, hH, hown, hB⟩ := hrel
    have HH := hid hH
    have HO := hid hown
    have HB := hid hB
    have HKr := hid (HK.out.below hB zg)
    have hHl := hH.len
    have z2 := hB.size
    clear hH hown hB
    by_cases hlt : i < M
    · have hil : i < LS.length := by rw [HM.out]; exact hlt
      obtain ⟨q, hq⟩ : ∃ q, LS[i]? = some q := ⟨LS[i], List.getElem?_eq_getElem hil⟩
      have hcg := My.chg_some hq
      obtain ⟨x0, _, _⟩ := HKr.out.line i q hq
      have hlt1 : (i : Int) < M := by omega
      clear hil hq
      by_cases hq1 : q.1 = 32
      · have k1 : ((ob q.1).toList == [32]) = true := by rw [ob_eq]; exact decide_eq_true hq1
        have HC := hid (show chg LS i = false by rw [hcg, hq1]; rfl)
        clear hq1 hcg
        go_wp2_with (fail)
        go_roundg (M - (i + 1))
        case measure => omega
        case rel => exact ⟨i + 1, H, rfl, by omega, by go_num, HH.out.skip HC.out, HO.out, HB.out⟩
      · have k1 : ((ob q.1).toList == [32]) = false := by rw [ob_eq]; exact decide_eq_false hq1
        have HC := hid (show chg LS i = true by rw [hcg]; simpa using hq1)
        clear hq1 hcg
        go_wp2_with (fail)
        go_loopg [10, 11] (M - (i + 1)) (fun gm ev jv wr' => ∃ e j : Nat, gm = M - j ∧ ev = .int .i64 e ∧ jv = .int .i64 j ∧ i < e ∧ e ≤ j ∧ j ≤ M ∧ EInv (chg LS) C i e j ∧ wr' = wr)
        case atStart => exact ⟨i + 1, i + 1, rfl, by go_num, by go_num, by omega, by omega, by omega, EInv.start C i HC.out, rfl⟩
        case round =>
          obtain ⟨e, j, rfl, rfl, rfl, hie, hej, hj, hE, rfl⟩ := hrel
          have HE := hid hE
          clear hE
          by_cases hin : j < M ∧ j ≤ e + 2 * C
          · obtain ⟨hj1, hj2⟩ := hin
            have hjl : j < LS.length := by rw [HM.out]; exact hj1
            obtain ⟨r, hr⟩ : ∃ q, LS[j]? = some q := ⟨LS[j], List.getElem?_eq_getElem hjl⟩
            have hcg := My.chg_some hr
            obtain ⟨y0, _, _⟩ := HKr.out.line j r hr
            have hj3 : (j : Int) < M := by omega
            have hj4 : (j : Int) - e ≤ 2 * C := by omega
            clear hjl hr
            by_cases hr1 : r.1 = 32
            · have k2 : ((ob r.1).toList == [32]) = true := by rw [ob_eq]; exact decide_eq_true hr1
              have HC2 := hid (show chg LS j = false by rw [hcg, hr1]; rfl)
              clear hr1 hcg
              go_wp2_with (fail)
              go_roundg (M - (j + 1))
              case measure => omega
              case rel => exact ⟨e, j + 1, rfl, rfl, by go_num, by omega, by omega, by omega, HE.out.keep HC2.out, rfl⟩
            · have k2 : ((ob r.1).toList == [32]) = false := by rw [ob_eq]; exact decide_eq_false hr1
              have HC2 := hid (show chg LS j = true by rw [hcg]; simpa using hr1)
              clear hr1 hcg
              go_wp2_with (fail)
              go_roundg (M - (j + 1))
              case measure => omega
              case rel => exact ⟨j + 1, j + 1, rfl, by go_num, by go_num, by omega, by omega, by omega, HE.out.grow hie hej hj2 HC2.out, rfl⟩
          · have HN := hid (HH.out.hunk HE.out hie (by omega) (by omega) (fun u hu => by have := My.chg_lt hu; rw [HM.out] at this; exact this) HC.out)
            have hx : ¬ (j : Int) < M ∨ ((j : Int) < M ∧ ¬ (j : Int) - e ≤ 2 * C) := by omega
            have heM : e ≤ M := by omega
            clear hin HE HH
            have HO2 := hid (fun o => ownsRow_below HO.out ((Below.refl _ wr).alloc (Nat.le_refl _) o) (Nat.le_refl _))
            have HSR := hid (fun v (hv : v = hunkV g M (i - C, min (e + C) M)) => (Or.inr ⟨⟨wr.heap.size, 0, none⟩, 1, rfl, (fun k u hu => by
              subst hv
              cases k with
              | zero => simp only [List.getElem?_cons_zero, Option.some.injEq] at hu; subst hu; exact (Blk.new wr 43 [_]).cell 0 (by simp)
              | succ k => simp at hu)⟩ : Src (wr.alloc (.cells #[v] 43)) (.slice (some ⟨wr.heap.size, 0, none⟩) 1 1) [hunkV g M (i - C, min (e + C) M)]))
            have h1 := hid (show ∀ u ∈ [hunkV g M (i - C, min (e + C) M)], u.oneCell' = true by intro u hu; simp at hu; subst hu; rfl)
            have h2 := hid (show H.length + 1 ≤ maxLen by simp [maxLen]; omega)
            have h3 := hid (show (H.length + 1) * 24 ≤ 140737488355328 by omega)
            have hlo : (i : Int) - C < 0 ∨ 0 ≤ (i : Int) - C := by omega
            have hhi : (M : Int) < (e : Int) + C ∨ (e : Int) + C ≤ M := by omega
            rcases hx with hx | ⟨hx, hx2⟩
            all_goals
              rcases hlo with hlo | hlo
              all_goals
                rcases hhi with hhi | hhi
                all_goals first | (exfalso; omega) | skip
                all_goals
                  go_wp2_with (at_builtin; refine wpList_append1 rfl (.tmp 52) (.tmp 65) 40 rfl w1.heap.size 43 (.slice none 0 0) 24 Try.underlying40 Try.info43 rfl u8 H.length _ rfl (HO2.out _) _ _ rfl (HSR.out _ (by simp only [hunkV, Value.slice.injEq, Option.some.injEq, Addr.mk.injEq, true_and, and_true] <;> omega)) h1.out h2.out h3.out (by simp; omega) ?_; intro v5 w5 ho5 hg5; have HO5 := hid ho5; have HG5 := hid hg5; clear ho5 hg5)
                  all_goals
                    go_roundg (M - e)
                    case measure => omega
                    case rel =>
                      refine ⟨e, _, rfl, heM, by go_num, HN.out, ?_, (HB.out.alloc z2 _).grown HG5.out (by simp; omega) (fun q hq => (HO.out.lt q hq).1)⟩
                      have := HO5.out
                      simpa using this
    · have hlt1 : ¬ (i : Int) < M := by omega
      obtain rfl : i = M := by omega
      go_wp2_with (fail)
      go_ret
      refine ⟨g, _, H, rfl, hg, by exact HKr.out, ?_, by rw [HM.out]; exact HH.out, HB1.out.trans (HB.out.mono z1)⟩
      rw [HM.out]; exact ownsRow_base HO.out z1
end Go.Proofs.Qxb6602717a
