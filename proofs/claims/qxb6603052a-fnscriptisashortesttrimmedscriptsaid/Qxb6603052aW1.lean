/-
  THE SMALL WALKS of seat b6603052a: the bounds on total length, the clone.
-/
import Derived.Test.Qxb6603052aProg
import Derived.Test.Qxb6603052aMem
import Derived.Lib.SliceRun
namespace Go.Proofs.Qxb6603052a
open Go.RowKit

def RetI (w : World) (e : Ending) (w' : World) : Prop := ∃ (t : Int), 0 ≤ t ∧ t ≤ 1048577 ∧ e = .returned (.int .i64 t) ∧ w = w'
theorem RetI.mk {w : World} {t : Int} (h0 : 0 ≤ t) (h1 : t ≤ 1048577) : RetI w (.returned (.int .i64 t)) w := ⟨t, h0, h1, rfl, rfl⟩

def RetB (w : World) (e : Ending) (w' : World) : Prop := ∃ (b : Bool), e = .returned (.bool b) ∧ w = w'
theorem RetB.mk {w : World} {b : Bool} : RetB w (.returned (.bool b)) w := ⟨b, rfl, rfl⟩

set_option maxHeartbeats 400000 in
theorem addBytes_any (a : Option Addr) (cap : Nat) (ss : List ByteArray) (w : World) (hl : ss.length ≤ 8192) (hs : ∀ s ∈ ss, s.size ≤ maxLen) (ha : SAt w a ss) :
    Calls Try.prog 7 #[.slice a ss.length cap] w (RetI w) := by
  have hS : Hid (∀ s ∈ ss, s.size ≤ maxLen) := hs
  have hA : Hid (SAt w a ss) := ha
  clear hs ha
  go_enter Try.func7, Try.ntmps7
  go_wp2
  go_loop [3, 4] (fun tt i => ∃ (k : Nat) (t : Int), k ≤ ss.length ∧ 0 ≤ t ∧ t ≤ 1048576 ∧ i = .int .i64 k ∧ tt = .int .i64 t) (fun _ i => ss.length - (intOf i).toNat)
  case atStart => exact ⟨0, 0, Nat.zero_le _, by omega, by omega, rfl, rfl⟩
  case round =>
    obtain ⟨k, t, hk, h0, h1, rfl, rfl⟩ := hrel
    by_cases hlt : k < ss.length
    · obtain ⟨b, off, rfl, hc⟩ := hA.out k hlt
      have hsz := hS.out ss[k] (by simp)
      unfold maxLen at hsz
      go_wp2
      · go_ret
        exact RetI.mk (by omega) (by omega)
      · go_ret
        exact RetI.mk (by omega) (by omega)
      · go_round
        case rel => exact ⟨k + 1, _, by omega, by omega, by omega, by go_num, rfl⟩
        case measure => simp [intOf]; omega
    · go_wp2
      go_ret
      exact RetI.mk h0 (by omega)

set_option maxHeartbeats 1000000 in
theorem bytes2_6 (a0 a1 : Option Addr) (c0 c1 : Nat) (s0 s1 : List ByteArray) (w : World) (hm0 : s0.length ≤ maxLen) (hm1 : s1.length ≤ maxLen)
    (hs0 : ∀ s ∈ s0, s.size ≤ maxLen) (hs1 : ∀ s ∈ s1, s.size ≤ maxLen) (ha0 : SAt w a0 s0) (ha1 : SAt w a1 s1) :
    Calls Try.prog 6 #[.slice a0 s0.length c0, .slice a1 s1.length c1] w (RetB w) := by
  have hS0 := hid hs0
  have hS1 := hid hs1
  have hA0 := hid ha0
  have hA1 := hid ha1
  clear hs0 hs1 ha0 ha1
  unfold maxLen at hm0 hm1
  go_enter Try.func6, Try.ntmps6
  go_wp2
  · go_ret; exact RetB.mk
  go_loop [5, 6] (fun tt i => ∃ (k : Nat) (t : Int), k ≤ s0.length ∧ 0 ≤ t ∧ t ≤ 1048576 ∧ i = .int .i64 k ∧ tt = .int .i64 t) (fun _ i => s0.length - (intOf i).toNat)
  case atStart => exact ⟨0, _, Nat.zero_le _, by omega, by omega, rfl, rfl⟩
  case round =>
    obtain ⟨k, t, hk, h0, h1, rfl, rfl⟩ := hrel
    by_cases hlt : k < s0.length
    · obtain ⟨b, off, rfl, hc⟩ := hA0.out k hlt
      have hsz := hS0.out s0[k] (by simp)
      unfold maxLen at hsz
      go_wp2
      · go_ret; exact RetB.mk
      · go_ret; exact RetB.mk
      · go_round
        case rel => exact ⟨k + 1, _, by omega, by omega, by omega, by go_num, rfl⟩
        case measure => simp [intOf]; omega
    · go_wp2
      · go_ret; exact RetB.mk
      · go_ret; exact RetB.mk
      go_loop [5, 7] (fun tt i => ∃ (k : Nat) (t : Int), k ≤ s1.length ∧ 0 ≤ t ∧ t ≤ 1048576 ∧ i = .int .i64 k ∧ tt = .int .i64 t) (fun _ i => s1.length - (intOf i).toNat)
      case atStart => exact ⟨0, _, Nat.zero_le _, by omega, by omega, rfl, rfl⟩
      case round =>
        obtain ⟨k, t, hk, h0, h1, rfl, rfl⟩ := hrel
        by_cases hlt : k < s1.length
        · obtain ⟨b, off, rfl, hc⟩ := hA1.out k hlt
          have hsz := hS1.out s1[k] (by simp)
          unfold maxLen at hsz
          go_wp2
          · go_ret; exact RetB.mk
          · go_ret; exact RetB.mk
          · go_round
            case rel => exact ⟨k + 1, _, by omega, by omega, by omega, by go_num, rfl⟩
            case measure => simp [intOf]; omega
        · go_wp2
          go_ret; exact RetB.mk

set_option maxHeartbeats 1000000 in
theorem bytes2_14 (a0 a1 : Option Addr) (c0 c1 : Nat) (s0 s1 : List ByteArray) (w : World) (hm0 : s0.length ≤ maxLen) (hm1 : s1.length ≤ maxLen)
    (hs0 : ∀ s ∈ s0, s.size ≤ maxLen) (hs1 : ∀ s ∈ s1, s.size ≤ maxLen) (ha0 : SAt w a0 s0) (ha1 : SAt w a1 s1) :
    Calls Try.prog 14 #[.slice a0 s0.length c0, .slice a1 s1.length c1] w (RetB w) := by
  have hS0 := hid hs0
  have hS1 := hid hs1
  have hA0 := hid ha0
  have hA1 := hid ha1
  clear hs0 hs1 ha0 ha1
  unfold maxLen at hm0 hm1
  go_enter Try.func14, Try.ntmps14
  go_wp2
  · go_ret; exact RetB.mk
  go_loop [5, 6] (fun tt i => ∃ (k : Nat) (t : Int), k ≤ s0.length ∧ 0 ≤ t ∧ t ≤ 1048576 ∧ i = .int .i64 k ∧ tt = .int .i64 t) (fun _ i => s0.length - (intOf i).toNat)
  case atStart => exact ⟨0, _, Nat.zero_le _, by omega, by omega, rfl, rfl⟩
  case round =>
    obtain ⟨k, t, hk, h0, h1, rfl, rfl⟩ := hrel
    by_cases hlt : k < s0.length
    · obtain ⟨b, off, rfl, hc⟩ := hA0.out k hlt
      have hsz := hS0.out s0[k] (by simp)
      unfold maxLen at hsz
      go_wp2
      · go_ret; exact RetB.mk
      · go_ret; exact RetB.mk
      · go_round
        case rel => exact ⟨k + 1, _, by omega, by omega, by omega, by go_num, rfl⟩
        case measure => simp [intOf]; omega
    · go_wp2
      · go_ret; exact RetB.mk
      · go_ret; exact RetB.mk
      go_loop [5, 7] (fun tt i => ∃ (k : Nat) (t : Int), k ≤ s1.length ∧ 0 ≤ t ∧ t ≤ 1048576 ∧ i = .int .i64 k ∧ tt = .int .i64 t) (fun _ i => s1.length - (intOf i).toNat)
      case atStart => exact ⟨0, _, Nat.zero_le _, by omega, by omega, rfl, rfl⟩
      case round =>
        obtain ⟨k, t, hk, h0, h1, rfl, rfl⟩ := hrel
        by_cases hlt : k < s1.length
        · obtain ⟨b, off, rfl, hc⟩ := hA1.out k hlt
          have hsz := hS1.out s1[k] (by simp)
          unfold maxLen at hsz
          go_wp2
          · go_ret; exact RetB.mk
          · go_ret; exact RetB.mk
          · go_round
            case rel => exact ⟨k + 1, _, by omega, by omega, by omega, by go_num, rfl⟩
            case measure => simp [intOf]; omega
        · go_wp2
          go_ret; exact RetB.mk

set_option maxHeartbeats 1000000 in
theorem bytes2_17 (a0 a1 : Option Addr) (c0 c1 : Nat) (s0 s1 : List ByteArray) (w : World) (hm0 : s0.length ≤ maxLen) (hm1 : s1.length ≤ maxLen)
    (hs0 : ∀ s ∈ s0, s.size ≤ maxLen) (hs1 : ∀ s ∈ s1, s.size ≤ maxLen) (ha0 : SAt w a0 s0) (ha1 : SAt w a1 s1) :
    Calls Try.prog 17 #[.slice a0 s0.length c0, .slice a1 s1.length c1] w (RetB w) := by
  have hS0 := hid hs0
  have hS1 := hid hs1
  have hA0 := hid ha0
  have hA1 := hid ha1
  clear hs0 hs1 ha0 ha1
  unfold maxLen at hm0 hm1
  go_enter Try.func17, Try.ntmps17
  go_wp2
  · go_ret; exact RetB.mk
  go_loop [5, 6] (fun tt i => ∃ (k : Nat) (t : Int), k ≤ s0.length ∧ 0 ≤ t ∧ t ≤ 1048576 ∧ i = .int .i64 k ∧ tt = .int .i64 t) (fun _ i => s0.length - (intOf i).toNat)
  case atStart => exact ⟨0, _, Nat.zero_le _, by omega, by omega, rfl, rfl⟩
  case round =>
    obtain ⟨k, t, hk, h0, h1, rfl, rfl⟩ := hrel
    by_cases hlt : k < s0.length
    · obtain ⟨b, off, rfl, hc⟩ := hA0.out k hlt
      have hsz := hS0.out s0[k] (by simp)
      unfold maxLen at hsz
      go_wp2
      · go_ret; exact RetB.mk
      · go_ret; exact RetB.mk
      · go_round
        case rel => exact ⟨k + 1, _, by omega, by omega, by omega, by go_num, rfl⟩
        case measure => simp [intOf]; omega
    · go_wp2
      · go_ret; exact RetB.mk
      · go_ret; exact RetB.mk
      go_loop [5, 7] (fun tt i => ∃ (k : Nat) (t : Int), k ≤ s1.length ∧ 0 ≤ t ∧ t ≤ 1048576 ∧ i = .int .i64 k ∧ tt = .int .i64 t) (fun _ i => s1.length - (intOf i).toNat)
      case atStart => exact ⟨0, _, Nat.zero_le _, by omega, by omega, rfl, rfl⟩
      case round =>
        obtain ⟨k, t, hk, h0, h1, rfl, rfl⟩ := hrel
        by_cases hlt : k < s1.length
        · obtain ⟨b, off, rfl, hc⟩ := hA1.out k hlt
          have hsz := hS1.out s1[k] (by simp)
          unfold maxLen at hsz
          go_wp2
          · go_ret; exact RetB.mk
          · go_ret; exact RetB.mk
          · go_round
            case rel => exact ⟨k + 1, _, by omega, by omega, by omega, by go_num, rfl⟩
            case measure => simp [intOf]; omega
        · go_wp2
          go_ret; exact RetB.mk

theorem Try.info9 : (Try.prog.info? 9).map (fun i => (i.zero, i.size, i.bytes)) = some (some (.string ⟨#[]⟩), 1, 16) := by kernel_rfl

def cloned (ss : List ByteArray) (k : Nat) : List Value := (ss.take k).map Value.string ++ List.replicate (ss.length - k) (.string ⟨#[]⟩)
theorem cloned_length (ss : List ByteArray) (k : Nat) (h : k ≤ ss.length) : (cloned ss k).length = ss.length := by simp [cloned]; omega
theorem cloned_zero (ss : List ByteArray) : cloned ss 0 = List.replicate ss.length (.string ⟨#[]⟩) := by simp [cloned]
theorem cloned_all (ss : List ByteArray) : cloned ss ss.length = ss.map Value.string := by simp [cloned]
theorem cloned_set (ss : List ByteArray) (k : Nat) (h : k < ss.length) : (cloned ss k).set k (.string ss[k]) = cloned ss (k + 1) := by
  unfold cloned
  have e : List.replicate (ss.length - k) (Value.string ⟨#[]⟩) = .string ⟨#[]⟩ :: List.replicate (ss.length - (k + 1)) (.string ⟨#[]⟩) := by
    rw [show ss.length - k = (ss.length - (k + 1)) + 1 by omega, List.replicate_succ]
  rw [e, List.set_append_right _ _ (by simp; omega)]
  have e2 : k - ((ss.take k).map Value.string).length = 0 := by simp; omega
  rw [e2, List.set_cons_zero, List.take_succ_eq_append_getElem h, List.map_append]
  simp only [List.map_cons, List.map_nil, List.append_assoc, List.cons_append, List.nil_append]

/-- A new row of these strings; nothing old has turned. -/
def Cloned (w : World) (ss : List ByteArray) (e : Ending) (w' : World) : Prop :=
  ∃ v, e = .returned v ∧ w'.ownsRow w.heap.size 9 1 v ss.length (ss.map Value.string) ∧ Below w.heap.size w w'

theorem clone_nil (w : World) : Calls Try.prog 8 #[.slice none 0 0] w (Cloned w []) := by
  have hq := fun (w : World) (a : Option Addr) (n c : Nat) => Lib.run_eql_slice_nil (P := Try.prog) w 22 9 a n c 0 0 Try.underlying22
  go_enter Try.func8, Try.ntmps8
  go_wp2
  go_ret
  exact ⟨_, rfl, World.ownsRow_nil _ _ _ _, Below.refl _ _⟩

set_option maxHeartbeats 400000 in
theorem clone_some (p : Addr) (cap : Nat) (ss : List ByteArray) (w : World) (hl : ss.length ≤ 8192) (ha : SAt w (some p) ss) :
    Calls Try.prog 8 #[.slice (some p) ss.length cap] w (Cloned w ss) := by
  have hA : Hid (SAt w (some p) ss) := ha
  clear ha
  have hq := fun (w : World) (a : Option Addr) (n c : Nat) => Lib.run_eql_slice_nil (P := Try.prog) w 22 9 a n c 0 0 Try.underlying22
  have hmk := run_make_row' (P := Try.prog) 22 9 (.string ⟨#[]⟩) 16 Try.underlying22 Try.info9 rfl .i64 .i64 ss.length (by omega) (by omega)
  go_enter Try.func8, Try.ntmps8
  go_wp2
  clear hmk hq
  go_loopg [4] ss.length (fun g i wr => ∃ k : Nat, k ≤ ss.length ∧ g = ss.length - k ∧ i = .int .i64 k ∧ Below w.heap.size w wr ∧ Blk wr w.heap.size 9 (cloned ss k))
  case atStart => exact ⟨0, Nat.zero_le _, rfl, rfl, (Below.refl _ _).alloc (Nat.le_refl _) _, by rw [cloned_zero]; exact Blk.made w 9 _ _⟩
  case round =>
    obtain ⟨k, hk, rfl, rfl, hB, hK⟩ := hrel
    have HB : Hid (Below w.heap.size w wr) := hB
    have HK : Hid (Blk wr w.heap.size 9 (cloned ss k)) := hK
    by_cases hlt : k < ss.length
    · obtain ⟨b, off, hp, hc⟩ := hA.out k hlt
      obtain rfl := Option.some.inj hp
      have hb := World.block_lt_of_cell? _ _ hc
      have hc' : wr.cell? ⟨b, off + k, none⟩ = some (.string ss[k]) := by rw [hB.cell (p := ⟨b, off + k, none⟩) hb]; exact hc
      have hst := hK.cell k (by rw [cloned_length _ _ hk]; omega)
      have hfr := hK.frozen k
      clear hB hK hc hp
      go_wp2
      go_roundg (ss.length - (k + 1))
      case measure => omega
      case rel => exact ⟨k + 1, by omega, rfl, by go_num, HB.out.setCell (Nat.le_refl _) _, by rw [← cloned_set ss k hlt]; exact HK.out.set k _⟩
    · obtain rfl : k = ss.length := by omega
      clear hB hK
      go_wp2
      go_ret
      have hK := HK.out
      rw [cloned_all] at hK
      have ho := hK.owns (Nat.le_refl _) (by simp [maxLen]; omega)
      simp only [List.length_map] at ho
      exact ⟨_, rfl, ho, HB.out⟩

theorem clone_any (a : Option Addr) (cap : Nat) (ss : List ByteArray) (w : World) (hn : a = none → ss = [] ∧ cap = 0) (hl : ss.length ≤ 8192) (ha : SAt w a ss) :
    Calls Try.prog 8 #[.slice a ss.length cap] w (Cloned w ss) := by
  cases a with
  | none =>
    obtain ⟨rfl, rfl⟩ := hn rfl
    exact clone_nil w
  | some p => exact clone_some p cap ss w hl ha

end Go.Proofs.Qxb6603052a
