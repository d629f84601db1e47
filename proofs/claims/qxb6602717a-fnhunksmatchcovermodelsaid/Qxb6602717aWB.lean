/-
  THE TWO-SLICE BOUNDS ON TOTAL LENGTH.
-/
import Derived.Test.Qxb6602717aW1
namespace Go.Proofs.Qxb6602717a
open Go.RowKit

set_option maxHeartbeats 1000000 in
theorem bytes2_9 (a0 a1 : Option Addr) (c0 c1 : Nat) (s0 s1 : List ByteArray) (w : World) (hm0 : s0.length ≤ maxLen) (hm1 : s1.length ≤ maxLen)
    (hs0 : ∀ s ∈ s0, s.size ≤ maxLen) (hs1 : ∀ s ∈ s1, s.size ≤ maxLen) (ha0 : SAt w a0 s0) (ha1 : SAt w a1 s1) :
    Calls Try.prog 9 #[.slice a0 s0.length c0, .slice a1 s1.length c1] w (RetB w) := by
  have hS0 := hid hs0
  have hS1 := hid hs1
  have hA0 := hid ha0
  have hA1 := hid ha1
  clear hs0 hs1 ha0 ha1
  unfold maxLen at hm0 hm1
  go_enter Try.func9, Try.ntmps9
  go_wp2
  · go_ret; exact RetB.mk
  go_loop [5, 6] (fun tt i => ∃ (k : Nat) (t : Int), k ≤ s0.length ∧ 0 ≤ t ∧ t ≤ 1048576 ∧ i = .int .i64 k ∧ tt = .int .i64 t) (fun _ i => s0.length - (intOf i).toNat)
  case atStart => exact ⟨0, _, Nat.zero_le _, by omega, by omega, rfl, rfl⟩
  case round =>
    obtain ⟨k, t, hk, h0, h1, rfl, rfl⟩ := hrel
    by_cases hlt : k < s0.length
    · obtain ⟨b, off, rfl, hc⟩ := hA0.out k hlt
      have hsz := hS0.out s0[k] (by simp)
      unfold maxLen at hsz
      go_wp2
      · go_ret; exact RetB.mk
      · go_ret; exact RetB.mk
      · go_round
        case rel => exact ⟨k + 1, _, by omega, by omega, by omega, by go_num, rfl⟩
        case measure => simp [intOf]; omega
    · go_wp2
      · go_ret; exact RetB.mk
      · go_ret; exact RetB.mk
      go_loop [5, 7] (fun tt i => ∃ (k : Nat) (t : Int), k ≤ s1.length ∧ 0 ≤ t ∧ t ≤ 1048576 ∧ i = .int .i64 k ∧ tt = .int .i64 t) (fun _ i => s1.length - (intOf i).toNat)
      case atStart => exact ⟨0, _, Nat.zero_le _, by omega, by omega, rfl, rfl⟩
      case round =>
        obtain ⟨k, t, hk, h0, h1, rfl, rfl⟩ := hrel
        by_cases hlt : k < s1.length
        · obtain ⟨b, off, rfl, hc⟩ := hA1.out k hlt
          have hsz := hS1.out s1[k] (by simp)
          unfold maxLen at hsz
          go_wp2
          · go_ret; exact RetB.mk
          · go_ret; exact RetB.mk
          · go_round
            case rel => exact ⟨k + 1, _, by omega, by omega, by omega, by go_num, rfl⟩
            case measure => simp [intOf]; omega
        · go_wp2
          go_ret; exact RetB.mk

set_option maxHeartbeats 1000000 in
theorem bytes2_17 (a0 a1 : Option Addr) (c0 c1 : Nat) (s0 s1 : List ByteArray) (w : World) (hm0 : s0.length ≤ maxLen) (hm1 : s1.length ≤ maxLen)
    (hs0 : ∀ s ∈ s0, s.size ≤ maxLen) (hs1 : ∀ s ∈ s1, s.size ≤ maxLen) (ha0 : SAt w a0 s0) (ha1 : SAt w a1 s1) :
    Calls Try.prog 17 #[.slice a0 s0.length c0, .slice a1 s1.length c1] w (RetB w) := by
  have hS0 := hid hs0
  have hS1 := hid hs1
  have hA0 := hid ha0
  have hA1 := hid ha1
  clear hs0 hs1 ha0 ha1
  unfold maxLen at hm0 hm1
  go_enter Try.func17, Try.ntmps17
  go_wp2
  · go_ret; exact RetB.mk
  go_loop [5, 6] (fun tt i => ∃ (k : Nat) (t : Int), k ≤ s0.length ∧ 0 ≤ t ∧ t ≤ 1048576 ∧ i = .int .i64 k ∧ tt = .int .i64 t) (fun _ i => s0.length - (intOf i).toNat)
  case atStart => exact ⟨0, _, Nat.zero_le _, by omega, by omega, rfl, rfl⟩
  case round =>
    obtain ⟨k, t, hk, h0, h1, rfl, rfl⟩ := hrel
    by_cases hlt : k < s0.length
    · obtain ⟨b, off, rfl, hc⟩ := hA0.out k hlt
      have hsz := hS0.out s0[k] (by simp)
      unfold maxLen at hsz
      go_wp2
      · go_ret; exact RetB.mk
      · go_ret; exact RetB.mk
      · go_round
        case rel => exact ⟨k + 1, _, by omega, by omega, by omega, by go_num, rfl⟩
        case measure => simp [intOf]; omega
    · go_wp2
      · go_ret; exact RetB.mk
      · go_ret; exact RetB.mk
      go_loop [5, 7] (fun tt i => ∃ (k : Nat) (t : Int), k ≤ s1.length ∧ 0 ≤ t ∧ t ≤ 1048576 ∧ i = .int .i64 k ∧ tt = .int .i64 t) (fun _ i => s1.length - (intOf i).toNat)
      case atStart => exact ⟨0, _, Nat.zero_le _, by omega, by omega, rfl, rfl⟩
      case round =>
        obtain ⟨k, t, hk, h0, h1, rfl, rfl⟩ := hrel
        by_cases hlt : k < s1.length
        · obtain ⟨b, off, rfl, hc⟩ := hA1.out k hlt
          have hsz := hS1.out s1[k] (by simp)
          unfold maxLen at hsz
          go_wp2
          · go_ret; exact RetB.mk
          · go_ret; exact RetB.mk
          · go_round
            case rel => exact ⟨k + 1, _, by omega, by omega, by omega, by go_num, rfl⟩
            case measure => simp [intOf]; omega
        · go_wp2
          go_ret; exact RetB.mk

set_option maxHeartbeats 1000000 in
theorem bytes2_20 (a0 a1 : Option Addr) (c0 c1 : Nat) (s0 s1 : List ByteArray) (cx : Int) (w : World) (hm0 : s0.length ≤ maxLen) (hm1 : s1.length ≤ maxLen)
    (hs0 : ∀ s ∈ s0, s.size ≤ maxLen) (hs1 : ∀ s ∈ s1, s.size ≤ maxLen) (ha0 : SAt w a0 s0) (ha1 : SAt w a1 s1) :
    Calls Try.prog 20 #[.slice a0 s0.length c0, .slice a1 s1.length c1, .int .i64 cx] w (RetB w) := by
  have hS0 := hid hs0
  have hS1 := hid hs1
  have hA0 := hid ha0
  have hA1 := hid ha1
  clear hs0 hs1 ha0 ha1
  unfold maxLen at hm0 hm1
  go_enter Try.func20, Try.ntmps20
  go_wp2
  · go_ret; exact RetB.mk
  go_loop [7, 8] (fun tt i => ∃ (k : Nat) (t : Int), k ≤ s0.length ∧ 0 ≤ t ∧ t ≤ 1048576 ∧ i = .int .i64 k ∧ tt = .int .i64 t) (fun _ i => s0.length - (intOf i).toNat)
  case atStart => exact ⟨0, _, Nat.zero_le _, by omega, by omega, rfl, rfl⟩
  case round =>
    obtain ⟨k, t, hk, h0, h1, rfl, rfl⟩ := hrel
    by_cases hlt : k < s0.length
    · obtain ⟨b, off, rfl, hc⟩ := hA0.out k hlt
      have hsz := hS0.out s0[k] (by simp)
      unfold maxLen at hsz
      go_wp2
      · go_ret; exact RetB.mk
      · go_ret; exact RetB.mk
      · go_round
        case rel => exact ⟨k + 1, _, by omega, by omega, by omega, by go_num, rfl⟩
        case measure => simp [intOf]; omega
    · go_wp2
      · go_ret; exact RetB.mk
      · go_ret; exact RetB.mk
      go_loop [7, 9] (fun tt i => ∃ (k : Nat) (t : Int), k ≤ s1.length ∧ 0 ≤ t ∧ t ≤ 1048576 ∧ i = .int .i64 k ∧ tt = .int .i64 t) (fun _ i => s1.length - (intOf i).toNat)
      case atStart => exact ⟨0, _, Nat.zero_le _, by omega, by omega, rfl, rfl⟩
      case round =>
        obtain ⟨k, t, hk, h0, h1, rfl, rfl⟩ := hrel
        by_cases hlt : k < s1.length
        · obtain ⟨b, off, rfl, hc⟩ := hA1.out k hlt
          have hsz := hS1.out s1[k] (by simp)
          unfold maxLen at hsz
          go_wp2
          · go_ret; exact RetB.mk
          · go_ret; exact RetB.mk
          · go_round
            case rel => exact ⟨k + 1, _, by omega, by omega, by omega, by go_num, rfl⟩
            case measure => simp [intOf]; omega
        · go_wp2
          go_ret; exact RetB.mk

end Go.Proofs.Qxb6602717a
