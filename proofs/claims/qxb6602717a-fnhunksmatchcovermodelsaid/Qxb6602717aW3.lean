/-
  THE LIBRARY's WALKS, MORE: slices.Grow of nil, slices.Concat of two.
-/
import Derived.Test.Qxb6602717aW2
import Derived.Lib.AppendZeros
namespace Go.Proofs.Qxb6602717a
open Go.RowKit

def Grown0 (w : World) (e : Ending) (w' : World) : Prop := ∃ v, e = .returned v ∧ w'.ownsRow w.heap.size 31 1 v 0 [] ∧ Below w.heap.size w w'

theorem zeros_run (w : World) (n : Nat) (h0 : 0 < n) (hn : n ≤ 65536) (ty : TypeId) :
    ∃ w', (Builtin.append_ #[27, 3] ty #[.slice none 0 0, .int .i64 n]).run Try.prog w = .ok (.slice (some ⟨w.heap.size, 0, none⟩) n (grownCap w n 0 31)) w' ∧
      w'.ownsRow w.heap.size 31 1 (.slice (some ⟨w.heap.size, 0, none⟩) 0 (grownCap w n 0 31)) 0 [] ∧ Below w.heap.size w w' ∧ n ≤ grownCap w n 0 31 := by
  obtain ⟨i, hi, hzz⟩ := Option.map_eq_some_iff.1 Try.info31
  simp only [Prod.mk.injEq] at hzz
  obtain ⟨hz, hs, hb⟩ := hzz
  have hr := Lib.run_append_nil_zeros (P := Try.prog) w 27 3 ty 31 i _ .i64 .i64 Try.underlying27 Try.underlying3 hi hz n h0 (by omega) (by omega) (by rw [hb]; omega)
  refine ⟨_, hr, ?_, ((Below.refl _ _).drew.alloc (Nat.le_refl _) _), grownCap_ge w n 0 31⟩
  have hge := grownCap_ge w n 0 31
  refine World.ownsRow_made w.drew _ _ (Nat.le_refl _) (grownCap_le_maxLen w n 0 31 (by simp [maxLen]; omega)) ?_
  simp [size_zeroCells, Value.cells]
  omega

set_option maxHeartbeats 400000 in
theorem grow_pos (n : Nat) (w : World) (h0 : 0 < n) (hn : n ≤ 65536) : Calls Try.prog 31 #[.slice none 0 0, .int .i64 n] w (Grown0 w) := by
  obtain ⟨w1, hr, ho, hb, hc⟩ := zeros_run w n h0 hn 27
  have HR := hid hr
  have HO := hid ho
  have HB := hid hb
  clear hr ho hb
  generalize grownCap w n 0 31 = gc at *
  go_enter Try.func31, Try.ntmps31
  go_wp2_with (at_builtin; refine Lib.wpList_append_run _ rfl (.tmp 20) (.tmp 21) 27 3 rfl _ _ rfl rfl _ w1 HR.out ?_)
  go_ret
  exact ⟨_, rfl, HO.out, HB.out⟩

theorem op_one (ops : List UInt8) : ∀ u ∈ ops.map opV, u.oneCell' = true := by
  intro u hu
  obtain ⟨c, _, rfl⟩ := List.mem_map.1 hu
  rfl

theorem Src.form {w : World} {v : Value} {xs : List Value} (h : Src w v xs) : ∃ a c, v = .slice a xs.length c := by
  rcases h with ⟨rfl, rfl⟩ | ⟨ad, c, rfl, _⟩
  · exact ⟨none, 0, rfl⟩
  · exact ⟨some ad, c, rfl⟩

set_option maxHeartbeats 1000000 in
theorem concat_any (b : Nat) (v1 v2 : Value) (o1 o2 : List UInt8) (w : World) (hb : w.cell? ⟨b, 0, none⟩ = some v1) (hb2 : w.cell? ⟨b, 1, none⟩ = some v2) (h1 : Src w v1 (o1.map opV)) (h2 : Src w v2 (o2.map opV))
    (hl1 : o1.length ≤ 16384) (hl2 : o2.length ≤ 16384) (hp : 0 < o1.length + o2.length) :
    Calls Try.prog 26 #[.slice (some ⟨b, 0, none⟩) 2 2] w (Ops w (o1 ++ o2)) := by
  obtain ⟨a1, c1, e1⟩ := h1.form
  obtain ⟨a2, c2, e2⟩ := h2.form
  simp only [List.length_map] at e1 e2
  subst e1 e2
  have H1 := hid h1
  have H2 := hid h2
  clear h1 h2
  have hbl := World.block_lt_of_cell? _ _ hb
  go_enter Try.func26, Try.ntmps26
  go_wp2
  go_loopg [3, 11] 2 (fun gm sz i wr => ∃ k : Nat, k ≤ 2 ∧ gm = 2 - k ∧ i = .int .i64 k ∧ sz = .int .i64 (if k = 0 then 0 else if k = 1 then o1.length else o1.length + o2.length) ∧ w = wr)
  case atStart => exact ⟨0, by omega, rfl, rfl, rfl, rfl⟩
  case round =>
    obtain ⟨k, hk, rfl, rfl, rfl, rfl⟩ := hrel
    match k, hk with
    | 0, _ =>
      go_wp2
      go_roundg 1
      case measure => omega
      case rel => exact ⟨1, by omega, rfl, by go_num, by simp, rfl⟩
    | 1, _ =>
      go_wp2
      go_roundg 0
      case measure => omega
      case rel => exact ⟨2, by omega, rfl, by go_num, by simp, rfl⟩
    | 2, _ =>
      have e12 : ((o1.length : Int) + o2.length) = ((o1.length + o2.length : Nat) : Int) := by omega
      have HG : Hid (Calls Try.prog 31 #[.slice none 0 0, .int .i64 ((o1.length : Int) + o2.length)] w (Grown0 w)) := by
        show Calls _ _ _ _ _; rw [e12]; exact grow_pos _ w (by omega) (by omega)
      clear e12
      go_wp2_with (go_at_call 31; refine HG.out.mono ?_; rintro e w1 ⟨v0, rfl, ho, hB⟩; have HO := hid ho; have HB := hid hB; clear ho hB)
      clear HG
      go_loopg [6, 27] 2 (fun gm nv i wr => ∃ k : Nat, k ≤ 2 ∧ gm = 2 - k ∧ i = .int .i64 k ∧ Below w.heap.size w wr ∧ wr.ownsRow w.heap.size 31 1 nv (if k = 0 then [] else if k = 1 then o1 else o1 ++ o2).length ((if k = 0 then [] else if k = 1 then o1 else o1 ++ o2).map opV))
      case atStart => exact ⟨0, by omega, rfl, rfl, HB.out, HO.out⟩
      case round =>
        clear HB HO
        obtain ⟨k, hk, rfl, rfl, hB, hO⟩ := hrel
        have HB := hid hB
        match k, hk with
        | 0, _ =>
          simp only [if_true, List.length_nil, List.map_nil] at hO
          have HO := hid hO
          clear hO
          have g1 : wr.cell? ⟨b, 0, none⟩ = some (.slice a1 o1.length c1) := by rw [hB.cell (p := ⟨b, 0, none⟩) hbl]; exact hb
          have HS := hid (H1.out.below hB)
          have hsz := hB.size
          clear hB
          go_wp2_with (at_builtin; refine wpList_append1 rfl (.tmp 31) (.tmp 32) 27 rfl w.heap.size 31 (.string ⟨#[]⟩) 16 Try.underlying27 Try.info31 rfl u6 0 [] rfl HO.out _ _ rfl HS.out (op_one _) ?h63 ?hb ?hba ?_; rotate_right; intro v1 w1 hown1 hg1)
          case h63 => simp [maxLen]; omega
          case hb => simp; omega
          case hba => exact hsz
          have H3 := hid hown1
          have H4 := hid hg1
          clear hown1 hg1
          go_wp2
          go_roundg 1
          case measure => omega
          case rel =>
            refine ⟨1, by omega, rfl, by go_num, HB.out.grown H4.out hsz (fun k hk => (HO.out.lt k hk).1), ?_⟩
            have := H3.out
            simpa using this
        | 1, _ =>
          simp only [if_neg (show ¬ (1 : Nat) = 0 by omega), if_true] at hO
          have HO := hid hO
          clear hO
          have g1 : wr.cell? ⟨b, 1, none⟩ = some (.slice a2 o2.length c2) := by rw [hB.cell (p := ⟨b, 1, none⟩) hbl]; exact hb2
          have HS := hid (H2.out.below hB)
          have hsz := hB.size
          clear hB
          go_wp2_with (at_builtin; refine wpList_append1 rfl (.tmp 31) (.tmp 32) 27 rfl w.heap.size 31 (.string ⟨#[]⟩) 16 Try.underlying27 Try.info31 rfl u6 o1.length (o1.map opV) rfl HO.out _ _ rfl HS.out (op_one _) ?h63 ?hb ?hba ?_; rotate_right; intro v1 w1 hown1 hg1)
          case h63 => simp [maxLen]; omega
          case hb => simp; omega
          case hba => exact hsz
          have H3 := hid hown1
          have H4 := hid hg1
          clear hown1 hg1
          go_wp2
          go_roundg 0
          case measure => omega
          case rel =>
            refine ⟨2, by omega, rfl, by go_num, HB.out.grown H4.out hsz (fun k hk => (HO.out.lt k hk).1), ?_⟩
            have := H3.out
            simpa using this
        | 2, _ =>
          have HO := hid hO
          clear hO hB
          go_wp2
          go_ret
          exact ⟨_, rfl, HO.out, HB.out⟩

end Go.Proofs.Qxb6602717a
