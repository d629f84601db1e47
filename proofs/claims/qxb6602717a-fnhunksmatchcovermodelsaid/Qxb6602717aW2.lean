/-
  THE LIBRARY's WALKS of seat b6602717a: math/bits.Mul at 1, slices.Repeat of one op.
-/
import Derived.Test.Qxb6602717aProg
import Derived.Test.Qxb6602717aMem
import Derived.Lib.SliceRun
import Derived.Laws.BitsAllLaws
import Derived.Laws.CopyOwn
namespace Go.Proofs.Qxb6602717a
open Go.RowKit

theorem band_one : bits BinOp.and IntKind.u64 1 4294967295 = 1 := by
  have := u64_and_nat 1 4294967295 (by decide) (by decide)
  simpa using this
theorem band_small (c : Nat) (hc : c ≤ 65536) : bits BinOp.and IntKind.u64 (c : Int) 4294967295 = c := by
  have h := u64_and_nat c 4294967295 (by omega) (by decide)
  have e : c &&& 4294967295 = c := by
    rw [show (4294967295 : Nat) = 2 ^ 32 - 1 by decide, Nat.and_two_pow_sub_one_eq_mod]
    omega
  rw [e] at h
  simpa using h
theorem wrap_small (c : Nat) (hc : c ≤ 65536) : IntKind.u64.wrap (c : Int) = c := by rw [IntKind.wrap_u64]; omega
theorem div_small (c : Nat) (hc : c ≤ 65536) : (c : Int) / 4294967296 = 0 := by omega

set_option maxHeartbeats 400000 in
theorem mul_one (c : Nat) (w : World) (hc : c ≤ 65536) :
    Calls Try.prog 32 #[.int .u64 1, .int .u64 c] w fun e w' => e = .returned (.tuple #[.int .u64 0, .int .u64 c]) ∧ w = w' := by
  have b1 := band_one
  have b2 := band_small c hc
  have b3 := wrap_small c hc
  have b4 := div_small c hc
  go_enter Try.func32, Try.ntmps32
  go_wp2
  go_ret2
  exact ⟨rfl, rfl⟩

theorem Try.info31 : (Try.prog.info? 31).map (fun i => (i.zero, i.size, i.bytes)) = some (some (.string ⟨#[]⟩), 1, 16) := by kernel_rfl

def opV (c : UInt8) : Value := .string ⟨#[c]⟩

def Ops (w : World) (ops : List UInt8) (e : Ending) (w' : World) : Prop :=
  ∃ v, e = .returned v ∧ w'.ownsRow w.heap.size 31 1 v ops.length (ops.map opV) ∧ Below w.heap.size w w'

def rep (v : Value) (c n : Nat) : List Value := List.replicate n v ++ List.replicate (c - n) (.string ⟨#[]⟩)
theorem rep_length (v : Value) (c n : Nat) (h : n ≤ c) : (rep v c n).length = c := by simp [rep]; omega

theorem rep_splice0 (v : Value) (c : Nat) : splice (List.replicate c (.string ⟨#[]⟩)) 0 [v] = rep v c 1 := by
  simp [splice, rep]
theorem rep_splice (v : Value) (c n k : Nat) (h : n + k ≤ c) : splice (rep v c n) n (List.replicate k v) = rep v c (n + k) := by
  unfold splice rep
  rw [List.take_append_of_le_length (by simp)]
  simp only [List.take_replicate, Nat.min_self, List.length_replicate]
  rw [List.drop_append]
  simp only [List.length_replicate, List.drop_replicate]
  rw [← List.append_assoc, List.replicate_append_replicate, show n - (n + k) = 0 by omega, show c - n - (n + k - n) = c - (n + k) by omega]
  simp

theorem rep_get (v : Value) (c n k j : Nat) (u : Value) (hk : k ≤ n) (h : (List.replicate k v)[j]? = some u) : (rep v c n)[j]? = some u := by
  rw [List.getElem?_replicate] at h
  split at h
  · unfold rep
    rw [List.getElem?_append_left (by simp; omega), List.getElem?_replicate, if_pos (by omega)]
    exact h
  · cases h

theorem repeat_zero (b : Nat) (w : World) :
    Calls Try.prog 27 #[.slice (some ⟨b, 0, none⟩) 1 1, .int .i64 0] w (Ops w []) := by
  have hmk := run_make_row' (P := Try.prog) 27 31 (.string ⟨#[]⟩) 16 Try.underlying27 Try.info31 rfl .i64 .i64 0 (by omega) (by omega)
  simp only [Int.natCast_zero] at hmk
  have hcp := fun (W : World) (ty : TypeId) (x y : Option Addr) (n c d : Nat) => run_copy_none (P := Try.prog) W 27 27 ty 31 x y 0 c n d Try.underlying27 (by kernel_rfl) (by simp)
  have Hmul : Hid (Calls Try.prog 32 #[.int .u64 1, .int .u64 0] w fun e w' => e = .returned (.tuple #[.int .u64 0, .int .u64 0]) ∧ w = w') := mul_one 0 w (by omega)
  go_enter Try.func27, Try.ntmps27
  go_wp2_with (go_at_call 32; refine (Hmul.out).mono ?_; rintro e w' ⟨rfl, rfl⟩)
  go_loopg [8] 0 (fun _ n wr => n = .int .i64 0 ∧ Below w.heap.size w wr ∧ Blk wr w.heap.size 31 [])
  case atStart => exact ⟨rfl, (Below.refl _ _).alloc (Nat.le_refl _) _, Blk.made w 31 _ 0⟩
  case round =>
    obtain ⟨rfl, hB, hK⟩ := hrel
    have HB : Hid (Below w.heap.size w wr) := hB
    have HK : Hid (Blk wr w.heap.size 31 []) := hK
    clear hB hK
    go_wp2
    go_ret
    exact ⟨_, rfl, HK.out.owns (Nat.le_refl _) (by simp), HB.out⟩

theorem copy_rep0 (w : World) (b c : Nat) (v : Value) (hv : v.oneCell' = true) (h0 : 0 < c) (hcell : w.cell? ⟨b, 0, none⟩ = some v) (ty : TypeId) :
    (Builtin.copy_ #[27, 27] ty #[.slice (some ⟨w.heap.size, 0, none⟩) c c, .slice (some ⟨b, 0, none⟩) 1 1]).run Try.prog (w.alloc (.cells (madeCells #[.string ⟨#[]⟩] c) 31)) =
      .ok (.int .i64 1) ((w.alloc (.cells (madeCells #[.string ⟨#[]⟩] c) 31)).setRow w.heap.size (rep v c 1).toArray) := by
  have hb := World.block_lt_of_cell? _ _ hcell
  have hr := run_copy_row (P := Try.prog) (w.alloc (.cells (madeCells #[.string ⟨#[]⟩] c) 31)) 27 27 ty 31 w.heap.size 0 c c ⟨b, 0, none⟩ 1 1 _ 31 [v] Try.underlying27 (by kernel_rfl) (Blk.made w 31 (.string ⟨#[]⟩) c) (show 1 = Nat.min 1 c from (Nat.min_eq_left h0).symm)
    (by intro j u hu; match j, hu with | 0, hu => simp at hu; subst hu; rw [World.cell?_alloc_old _ _ _ (by show b ≠ w.heap.size; exact Nat.ne_of_lt hb)]; exact hcell) (by simp; omega) (by simp [hv])
  rw [hr]
  have := rep_splice0 v c
  simp [splice] at this
  simp [this, goInt]

theorem copy_rep (w : World) (g c n k : Nat) (v : Value) (hv : v.oneCell' = true) (hk : Blk w g 31 (rep v c n)) (hn : n < c) (hkk : k = min n (c - n)) (ty : TypeId) :
    (Builtin.copy_ #[27, 27] ty #[.slice (some ⟨g, n, none⟩) (c - n) (c - n), .slice (some ⟨g, 0, none⟩) n c]).run Try.prog w.drew =
      .ok (.int .i64 k) (w.setRow g (rep v c (n + k)).toArray).drew := by
  have hr := run_copy_row (P := Try.prog) w.drew 27 27 ty 31 g n (c - n) (c - n) ⟨g, 0, none⟩ n c _ 31 (List.replicate k v) Try.underlying27 (by kernel_rfl) hk (by simp [hkk])
    (by
      intro j u hu
      have hu2 := rep_get v c n k j u (by omega) hu
      have hj : j < (rep v c n).length := (List.getElem?_eq_some_iff.1 hu2).1
      have := hk.cell j hj
      rw [Addr.add_lit, Nat.zero_add]
      show w.cell? _ = _
      rw [this, ← hu2]
      simp) (by simp [rep]; omega) (by intro u hu; rw [List.eq_of_mem_replicate hu]; exact hv)
  rw [hr]
  have := rep_splice v c n k (by omega)
  simp only [splice, List.length_replicate] at this
  simp [this, goInt]
  rfl

set_option maxHeartbeats 400000 in
theorem repeat_pos (b : Nat) (o : UInt8) (c : Nat) (w : World) (h0 : 0 < c) (hc : c ≤ 65536) (hcell : w.cell? ⟨b, 0, none⟩ = some (opV o)) :
    Calls Try.prog 27 #[.slice (some ⟨b, 0, none⟩) 1 1, .int .i64 c] w (Ops w (List.replicate c o)) := by
  have hmk := run_make_row' (P := Try.prog) 27 31 (.string ⟨#[]⟩) 16 Try.underlying27 Try.info31 rfl .i64 .i64 c (by omega) (by omega)
  have hv1 : Hid ((opV o).oneCell' = true) := rfl
  have Hfin : Hid (List.replicate c (opV o) = (List.replicate c o).map opV) := by show _ = _; simp
  generalize opV o = v at *
  have hcp := copy_rep0 w b c v hv1.out h0 hcell
  have b3 := wrap_small c hc
  go_enter Try.func27, Try.ntmps27
  go_wp2_with (go_at_call 32; refine (mul_one c _ hc).mono ?_; rintro e w' ⟨rfl, rfl⟩)
  clear hcp hmk b3
  clear hcell
  go_loopg [8] (c - 1) (fun g n wr => ∃ k : Nat, 0 < k ∧ k ≤ c ∧ g = c - k ∧ n = .int .i64 k ∧ Below w.heap.size w wr ∧ Blk wr w.heap.size 31 (rep v c k))
  case atStart => exact ⟨1, by omega, by omega, rfl, rfl, Below.setRow ((Below.refl _ _).alloc (Nat.le_refl _) _) (Nat.le_refl _) _, (Blk.made w 31 (.string ⟨#[]⟩) c).setRow _⟩
  case round =>
    obtain ⟨k, hk0, hk, rfl, rfl, hB, hK⟩ := hrel
    have HB : Hid (Below w.heap.size w wr) := hB
    have HK : Hid (Blk wr w.heap.size 31 (rep v c k)) := hK
    clear hB hK
    by_cases hlt : k < c
    · obtain ⟨m, hm⟩ : ∃ m, m = min k (c - k) := ⟨_, rfl⟩
      have hm1 : 0 < m := by omega
      have hm2 : k + m ≤ c := by omega
      have hcp := copy_rep wr w.heap.size c k m v hv1.out HK.out hlt hm
      clear hm
      go_wp2
      go_region
      clear hcp
      go_wp2
      go_roundg (c - (k + m))
      case measure => omega
      case rel => exact ⟨k + m, by omega, by omega, rfl, by go_num, (Below.setRow HB.out (Nat.le_refl _) _).drew, (HK.out.setRow _).drew⟩
    · obtain rfl : k = c := by omega
      go_wp2
      go_ret
      have hK := HK.out
      have e : rep v k k = (List.replicate k o).map opV := by rw [← Hfin.out]; simp [rep]
      rw [e] at hK
      have ho := hK.owns (Nat.le_refl _) (by simp [maxLen]; omega)
      simp only [List.length_map] at ho
      refine ⟨_, rfl, ?_, HB.out⟩
      simpa using ho

theorem Try.info3 : (Try.prog.info? 3).map (fun i => (i.zero, i.size, i.bytes)) = some (some (.int .i64 0), 1, 8) := by kernel_rfl

def VClone (w : World) (xs : List Value) (e : Ending) (w' : World) : Prop := ∃ v, e = .returned v ∧ w'.ownsRow w.heap.size 3 1 v xs.length xs ∧ Below w.heap.size w w'

theorem vclone_any (b off cap : Nat) (xs : List Value) (w : World) (hl : xs.length ≤ 65536) (h1 : ∀ v ∈ xs, v.oneCell' = true) (hx : VAt w ⟨b, off, none⟩ xs) :
    Calls Try.prog 28 #[.slice (some ⟨b, off, none⟩) xs.length cap] w (VClone w xs) := by
  have hq := fun (w : World) (a : Option Addr) (n c : Nat) => Lib.run_eql_slice_nil (P := Try.prog) w 46 3 a n c 0 0 Try.underlying46
  have H1 : Hid (∀ v ∈ xs, v.oneCell' = true) := h1
  have HX : Hid (Src (w.alloc (.cells #[] 3)) (.slice (some ⟨b, off, none⟩) xs.length cap) xs) := (Src.below (.inr ⟨_, _, rfl, hx⟩) ((Below.refl _ _).alloc (Nat.le_refl _) _))
  have HO : Hid ((w.alloc (.cells #[] 3)).ownsRow w.heap.size 3 1 (.slice (some ⟨w.heap.size, 0, none⟩) 0 0) 0 []) := World.ownsRow_lit w #[] 0 (Nat.le_refl _) (Nat.zero_le _) rfl
  clear h1 hx
  go_enter Try.func28, Try.ntmps28
  go_wp2_with (at_builtin; refine wpList_append1 rfl (.tmp 5) (.tmp 6) 46 rfl w.heap.size 3 (.int .i64 0) 8 Try.underlying46 Try.info3 rfl (.slice (some ⟨w.heap.size, 0, none⟩) 0 0) 0 [] rfl HO.out _ xs rfl HX.out H1.out ?h63 ?hb ?hba ?_; rotate_right; intro v1 w1 hown1 hg1)
  case h63 => simp [maxLen]; omega
  case hb => omega
  case hba => simp
  go_ret
  exact ⟨_, rfl, by simpa using hown1, (((Below.refl _ _).alloc (Nat.le_refl _) _).grown hg1 (by simp) (by simp [Value.ownBlock]))⟩

/-- The first n of l, the i outermost pairs of them exchanged. -/
def swp (l : List Value) (n i : Nat) : List Value := (List.range l.length).map fun t => if t < n ∧ (t < i ∨ n ≤ t + i) then l.getD (n - 1 - t) undef else l.getD t undef
theorem swp_length (l : List Value) (n i : Nat) : (swp l n i).length = l.length := by simp [swp]
theorem swp_get (l : List Value) (n i t : Nat) (ht : t < l.length) : (swp l n i)[t]? = some (if t < n ∧ (t < i ∨ n ≤ t + i) then l.getD (n - 1 - t) undef else l.getD t undef) := by
  simp [swp, ht]
theorem swp_zero (l : List Value) (n : Nat) : swp l n 0 = l := by
  apply List.ext_getElem?
  intro t
  by_cases ht : t < l.length
  · rw [swp_get l n 0 t ht, if_neg (by omega)]; simp [ht]
  · rw [List.getElem?_eq_none (by rw [swp_length]; omega), List.getElem?_eq_none (by omega)]
theorem swp_step (l : List Value) (n i : Nat) (hn : n ≤ l.length) (hi : i < n - 1 - i) (x y : Value) (hx : (swp l n i)[n - 1 - i]? = some x) (hy : (swp l n i)[i]? = some y) :
    ((swp l n i).set i x).set (n - 1 - i) y = swp l n (i + 1) := by
  rw [swp_get _ _ _ _ (by omega), if_neg (by omega)] at hx hy
  apply List.ext_getElem?
  intro t
  by_cases ht : t < l.length
  · rw [swp_get _ _ _ _ ht, List.getElem?_set, List.getElem?_set]
    simp only [List.length_set, swp_length]
    by_cases e1 : n - 1 - i = t
    · rw [if_pos e1, if_pos (by omega), if_pos (by omega), ← hy]
      congr 2; omega
    · rw [if_neg e1]
      by_cases e2 : i = t
      · rw [if_pos e2, if_pos (by omega), if_pos (by omega), ← hx]
        congr 2; omega
      · rw [if_neg e2, swp_get _ _ _ _ ht]
        congr 1
        by_cases c : t < n ∧ (t < i ∨ n ≤ t + i)
        · rw [if_pos c, if_pos (by omega)]
        · rw [if_neg c, if_neg (by omega)]
  · rw [List.getElem?_eq_none (by simp [swp_length]; omega), List.getElem?_eq_none (by rw [swp_length]; omega)]
theorem swp_done (l : List Value) (n i : Nat) (hn : n ≤ l.length) (hi : n ≤ 2 * i + 1) (h2 : 2 * i ≤ n) : swp l n i = (l.take n).reverse ++ l.drop n := by
  apply List.ext_getElem?
  intro t
  by_cases ht : t < l.length
  · rw [swp_get _ _ _ _ ht]
    by_cases c : t < n
    · have hL : (if t < n ∧ (t < i ∨ n ≤ t + i) then l.getD (n - 1 - t) undef else l.getD t undef) = l.getD (n - 1 - t) undef := by
        by_cases c2 : t < n ∧ (t < i ∨ n ≤ t + i)
        · rw [if_pos c2]
        · rw [if_neg c2, show n - 1 - t = t by omega]
      rw [hL, List.getElem?_append_left (by simp; omega), List.getElem?_reverse (by simp; omega)]
      simp only [List.length_take, List.getElem?_take]
      rw [Nat.min_eq_left hn, if_pos (by omega)]
      simp [show n - 1 - t < l.length by omega]
    · rw [if_neg (by omega), List.getElem?_append_right (by simp; omega), List.getElem?_drop]
      simp only [List.length_reverse, List.length_take]
      rw [Nat.min_eq_left hn, show n + (t - n) = t by omega]; simp [ht]
  · rw [List.getElem?_eq_none (by rw [swp_length]; omega), List.getElem?_eq_none (by simp; omega)]

def Rev (g : Nat) (l' : List Value) (w : World) (e : Ending) (w' : World) : Prop := e = .returned (.tuple #[]) ∧ Blk w' g 31 l' ∧ w.grownBy w' (some g)

set_option maxHeartbeats 1000000 in
theorem reverse_blk (g cap n : Nat) (l : List Value) (w : World) (hl : l.length ≤ maxLen) (hn : n ≤ l.length) (h1 : ∀ t, t < n → ∃ s, l[t]? = some (.string s)) (hk : Blk w g 31 l) :
    Calls Try.prog 30 #[.slice (some ⟨g, 0, none⟩) n cap] w (Rev g ((l.take n).reverse ++ l.drop n) w) := by
  have HK : Hid (Blk w g 31 l) := hk
  have H1 : Hid (∀ t, t < n → ∃ s, l[t]? = some (.string s)) := h1
  clear hk h1
  unfold maxLen at hl
  go_enter Try.func30, Try.ntmps30
  go_wp2
  go_loopg [2, 3] n (fun gm i j wr => ∃ k : Nat, 2 * k ≤ n ∧ gm = n - k ∧ i = .int .i64 k ∧ j = .int .i64 ((n : Int) - 1 - k) ∧ w.grownBy wr (some g) ∧ Blk wr g 31 (swp l n k))
  case atStart => exact ⟨0, by omega, rfl, rfl, by go_num, ⟨rfl, rfl, rfl, Nat.le_refl _, fun _ _ _ => rfl⟩, by rw [swp_zero]; exact HK.out⟩
  case round =>
    obtain ⟨k, hk, rfl, rfl, rfl, hG, hK⟩ := hrel
    have HG : Hid (w.grownBy wr (some g)) := hG
    have HK : Hid (Blk wr g 31 (swp l n k)) := hK
    clear hG hK
    by_cases hlt : k < n - 1 - k
    · have hlt' : (k : Int) < (n : Int) - 1 - k := by omega
      obtain ⟨sx, hsx⟩ := H1.out (n - 1 - k) (by omega)
      obtain ⟨sy, hsy⟩ := H1.out k (by omega)
      have ex : (swp l n k)[n - 1 - k]? = some (.string sx) := by rw [swp_get _ _ _ _ (by omega), if_neg (by omega)]; simp [hsx]
      have ey : (swp l n k)[k]? = some (.string sy) := by rw [swp_get _ _ _ _ (by omega), if_neg (by omega)]; simp [hsy]
      have hS : ((swp l n k).set k (.string sx)).set (n - 1 - k) (.string sy) = swp l n (k + 1) := swp_step l n k hn hlt _ _ ex ey
      have hx : wr.cell? ⟨g, n - 1 - k, none⟩ = some (.string sx) := by rw [HK.out.cell _ (by rw [swp_length]; omega), ← ex]; simp
      have hy : wr.cell? ⟨g, k, none⟩ = some (.string sy) := by rw [HK.out.cell _ (by rw [swp_length]; omega), ← ey]; simp
      have fx := HK.out.frozen (n - 1 - k)
      have fy := HK.out.frozen k
      have HK2 : Hid (Blk ((wr.setCell ⟨g, k, none⟩ (.string sx)).setCell ⟨g, n - 1 - k, none⟩ (.string sy)) g 31 (swp l n (k + 1))) := by rw [← hS]; exact (HK.out.set _ _).set _ _
      have hx2 : (wr.setCell ⟨g, k, none⟩ (.string sx)).cell? ⟨g, n - 1 - k, none⟩ = some (.string sx) := by
        rw [World.cell?_setCell_other _ _ _ _ (fun e => by have e2 : k = n - 1 - k := congrArg Addr.off e; omega)]; exact hx
      have fx2 : (wr.setCell ⟨g, k, none⟩ (.string sx)).frozen? ⟨g, n - 1 - k, none⟩ = false := (HK.out.set _ _).frozen _
      have b1 : (0 : Int) ≤ (n : Int) - 1 - k := by omega
      have b2 : (n : Int) - 1 - k < n := by omega
      have b3 : (k : Int) < n := by omega
      have b4 : (k : Int) ≤ (n : Int) - 1 := by omega
      clear ex ey hS hsx hsy
      go_wp2
      go_region
      clear hx hy fx fy hx2 fx2
      go_wp2
      go_roundg (n - (k + 1))
      case measure => omega
      case rel =>
        refine ⟨k + 1, by omega, rfl, by go_num, by go_num, ?_, HK2.out.drew⟩
        exact ⟨HG.out.os, HG.out.tape, HG.out.output, by simpa [World.setCell] using HG.out.size, fun q hq hne => by
          have h1 := HG.out.block q hq hne
          rw [← h1]
          show ((wr.setCell ⟨g, k, none⟩ (.string sx)).setCell ⟨g, n - 1 - k, none⟩ (.string sy)).heap[q]? = _
          rw [Below.heap_setCell _ _ _ _ (fun e => hne (by rw [e])), Below.heap_setCell _ _ _ _ (fun e => hne (by rw [e]))]⟩
    · have hlt' : ¬ (k : Int) < (n : Int) - 1 - k := by omega
      go_wp2
      go_end0
      exact ⟨rfl, by rw [← swp_done l n k hn (by omega) hk]; exact HK.out, HG.out⟩

theorem reverse_nil (w : World) : Calls Try.prog 30 #[.slice none 0 0] w fun e w' => e = .returned (.tuple #[]) ∧ w = w' := by
  go_enter Try.func30, Try.ntmps30
  go_wp2
  go_loopg [2, 3] 0 (fun _ i j wr => i = .int .i64 0 ∧ j = .int .i64 (-1) ∧ wr = w)
  case atStart => exact ⟨rfl, rfl, rfl⟩
  case round =>
    obtain ⟨rfl, rfl, rfl⟩ := hrel
    go_wp2
    go_end0
    exact ⟨rfl, rfl⟩

def RevOwn (base : Nat) (v : Value) (ops : List UInt8) (w : World) (e : Ending) (w' : World) : Prop := e = .returned (.tuple #[]) ∧ w'.ownsRow base 31 1 v ops.length (ops.reverse.map opV) ∧ w.grownBy w' v.ownBlock

theorem reverse_own (base : Nat) (v : Value) (ops : List UInt8) (w : World) (h : w.ownsRow base 31 1 v ops.length (ops.map opV)) : Calls Try.prog 30 #[v] w (RevOwn base v ops w) := by
  rcases h.2 with ⟨rfl, hn⟩ | ⟨g, cap, cur, rfl, hg, hh, hnc, hcm, hcs, htake⟩
  · obtain rfl : ops = [] := List.eq_nil_of_length_eq_zero hn
    refine (reverse_nil w).mono ?_
    rintro e w' ⟨rfl, rfl⟩
    exact ⟨rfl, World.ownsRow_nil _ _ _ _, ⟨rfl, rfl, rfl, Nat.le_refl _, fun _ _ _ => rfl⟩⟩
  · have hcl : cur.toList.length = cap := by simpa using hcs
    rw [Nat.mul_one] at htake
    refine (reverse_blk g cap ops.length cur.toList w (by omega) (by omega) ?_ (by unfold Blk; simpa using hh)).mono ?_
    · intro t ht
      have : (cur.toList.take ops.length)[t]? = some (opV ops[t]) := by rw [htake]; simp [ht]
      rw [List.getElem?_take, if_pos ht] at this
      exact ⟨_, this⟩
    · rintro e w' ⟨rfl, hK, hG⟩
      refine ⟨rfl, ⟨by simp, .inr ⟨g, cap, _, rfl, hg, hK, hnc, hcm, ?_, ?_⟩⟩, hG⟩
      · simp; simp at hcl; omega
      · rw [htake]; simp

theorem repeat_any (b : Nat) (o : UInt8) (c : Nat) (w : World) (hc : c ≤ 65536) (hcell : w.cell? ⟨b, 0, none⟩ = some (opV o)) :
    Calls Try.prog 27 #[.slice (some ⟨b, 0, none⟩) 1 1, .int .i64 c] w (Ops w (List.replicate c o)) := by
  by_cases h0 : c = 0
  · subst h0; exact repeat_zero b w
  · exact repeat_pos b o c w (by omega) hc hcell

end Go.Proofs.Qxb6602717a
