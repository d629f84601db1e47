/-
  THE WALKS of seat b6602836a: the letter table, sqliteFold, the law.
-/
import Derived.Test.Qxb6602836aProg
import Derived.WalkKit
import Derived.WalkSpells
import Derived.WalkLawsBesides
import Derived.Deep.LoopGhost
import Derived.Deep.QuietTactic
import Derived.BigQuiet
import Derived.Deep.DeepCutAuto
import Derived.Laws.IdiomStrings
import Derived.Laws.BitsAllLaws
namespace Go.Proofs.Qxb6602836a
open Go.RowKit

theorem hid {p : Prop} (h : p) : Hid p := h

/-- The fold of one byte. -/
def fold (c : UInt8) : UInt8 := if 65 ≤ c.toNat ∧ c.toNat ≤ 90 then c + 32 else c

def RetU (x : Nat) (w : World) (e : Ending) (w' : World) : Prop := e = .returned (.int .u8 x) ∧ w = w'

def upper : ByteArray := ⟨#[65, 66, 67, 68, 69, 70, 71, 72, 73, 74, 75, 76, 77, 78, 79, 80, 81, 82, 83, 84, 85, 86, 87, 88, 89, 90]⟩
def lower : ByteArray := ⟨#[97, 98, 99, 100, 101, 102, 103, 104, 105, 106, 107, 108, 109, 110, 111, 112, 113, 114, 115, 116, 117, 118, 119, 120, 121, 122]⟩

theorem idx_upper (k : Nat) (hk : k < 26) (w : World) : (Instr.index 9 (.string ⟨#[65, 66, 67, 68, 69, 70, 71, 72, 73, 74, 75, 76, 77, 78, 79, 80, 81, 82, 83, 84, 85, 86, 87, 88, 89, 90]⟩) (.int .i64 k)).run Try.prog w = .ok (.int .u8 ((65 + k : Nat) : Int)) w := by
  rcases (show k = 0 ∨ k = 1 ∨ k = 2 ∨ k = 3 ∨ k = 4 ∨ k = 5 ∨ k = 6 ∨ k = 7 ∨ k = 8 ∨ k = 9 ∨ k = 10 ∨ k = 11 ∨ k = 12 ∨ k = 13 ∨ k = 14 ∨ k = 15 ∨ k = 16 ∨ k = 17 ∨ k = 18 ∨ k = 19 ∨ k = 20 ∨ k = 21 ∨ k = 22 ∨ k = 23 ∨ k = 24 ∨ k = 25 by omega) with rfl | rfl | rfl | rfl | rfl | rfl | rfl | rfl | rfl | rfl | rfl | rfl | rfl | rfl | rfl | rfl | rfl | rfl | rfl | rfl | rfl | rfl | rfl | rfl | rfl | rfl
  all_goals kernel_rfl
theorem idx_lower (k : Nat) (hk : k < 26) (w : World) : (Instr.index 9 (.string ⟨#[97, 98, 99, 100, 101, 102, 103, 104, 105, 106, 107, 108, 109, 110, 111, 112, 113, 114, 115, 116, 117, 118, 119, 120, 121, 122]⟩) (.int .i64 k)).run Try.prog w = .ok (.int .u8 ((97 + k : Nat) : Int)) w := by
  rcases (show k = 0 ∨ k = 1 ∨ k = 2 ∨ k = 3 ∨ k = 4 ∨ k = 5 ∨ k = 6 ∨ k = 7 ∨ k = 8 ∨ k = 9 ∨ k = 10 ∨ k = 11 ∨ k = 12 ∨ k = 13 ∨ k = 14 ∨ k = 15 ∨ k = 16 ∨ k = 17 ∨ k = 18 ∨ k = 19 ∨ k = 20 ∨ k = 21 ∨ k = 22 ∨ k = 23 ∨ k = 24 ∨ k = 25 by omega) with rfl | rfl | rfl | rfl | rfl | rfl | rfl | rfl | rfl | rfl | rfl | rfl | rfl | rfl | rfl | rfl | rfl | rfl | rfl | rfl | rfl | rfl | rfl | rfl | rfl | rfl
  all_goals kernel_rfl

theorem fold_up (c : UInt8) (k : Nat) (hk : k < 26) (h : 65 + k = c.toNat) : (fold c).toNat = 97 + k := by
  unfold fold
  rw [if_pos (by omega), UInt8.toNat_add]
  simp
  omega
theorem fold_other (c : UInt8) (h : ∀ k, k < 26 → 65 + k ≠ c.toNat) : fold c = c := by
  unfold fold
  rw [if_neg]
  intro hc
  exact h (c.toNat - 65) (by omega) (by omega)

set_option maxHeartbeats 1000000 in
theorem table_any (c : UInt8) (w : World) : Calls Try.prog 7 #[.int .u8 c.toNat] w (RetU (fold c).toNat w) := by
  obtain ⟨n, hn⟩ : ∃ n, n = c.toNat := ⟨_, rfl⟩
  have HN := hid hn
  have hn2 : n < 256 := by rw [hn]; exact c.toNat_lt
  rw [← hn]
  clear hn
  go_enter Try.func7, Try.ntmps7
  go_wp2
  go_loopg [3] 26 (fun gm kv wr => ∃ k : Nat, gm = 26 - k ∧ k ≤ 26 ∧ kv = .int .i64 k ∧ (∀ j, j < k → 65 + j ≠ n) ∧ w = wr)
  case atStart => exact ⟨0, rfl, by omega, rfl, fun j hj => by omega, rfl⟩
  case round =>
    obtain ⟨k, rfl, hk, rfl, hno, rfl⟩ := hrel
    have HNO := hid hno
    clear hno
    by_cases hlt : k < 26
    · have iu := idx_upper k hlt
      have il := idx_lower k hlt
      have hlt1 : (k : Int) < 26 := by omega
      by_cases he : 65 + k = n
      · have hb : (((65 + k : Nat) : Int) == (n : Int)) = true := by simp; omega
        have HF := hid (fold_up c k hlt (by rw [← HN.out]; exact he))
        clear he
        go_wp2
        go_ret
        exact ⟨by rw [HF.out]; rfl, rfl⟩
      · have hb : (((65 + k : Nat) : Int) == (n : Int)) = false := by simp; omega
        go_wp2
        go_roundg (26 - (k + 1))
        case measure => omega
        case rel => exact ⟨k + 1, rfl, by omega, by go_num, fun j hj => by
          by_cases e : j < k
          · exact HNO.out j e
          · obtain rfl : j = k := by omega
            exact he, rfl⟩
    · have hlt1 : ¬ (k : Int) < 26 := by omega
      have HF := hid (fold_other c (fun j hj => by rw [← HN.out]; exact HNO.out j (by omega)))
      go_wp2
      go_ret
      exact ⟨by rw [HF.out, ← HN.out]; rfl, rfl⟩

theorem tableq (c : UInt8) (w : World) : Calls Try.prog 7 #[.int .u8 c.toNat] w fun e w' => e = .returned (.int .u8 (fold c).toNat) ∧ w' = w :=
  (table_any c w).mono fun _ _ ⟨h1, h2⟩ => ⟨h1, h2.symm⟩

/-- A row of bytes with the run-time's mark behind its last cell. -/
def BRow (w : World) (g : Nat) (l : List Value) : Prop := w.heap[g]? = some (.cells l.toArray 5 (l.length, l.length + 1))
theorem BRow.cell {w : World} {g : Nat} {l : List Value} (h : BRow w g l) (i : Nat) (hi : i < l.length) : w.cell? ⟨g, i, none⟩ = some l[i] := by
  unfold BRow at h
  simp [World.cell?, h, hi]
theorem BRow.frozen {w : World} {g : Nat} {l : List Value} (h : BRow w g l) (i : Nat) (hi : i < l.length) : w.frozen? ⟨g, i, none⟩ = false := by
  unfold BRow at h
  simp [World.frozen?, h]; omega
theorem BRow.set {w : World} {g : Nat} {l : List Value} (h : BRow w g l) (i : Nat) (v : Value) : BRow (w.setCell ⟨g, i, none⟩ v) g (l.set i v) := by
  unfold BRow at *
  have hlt : g < w.heap.size := (Array.getElem?_eq_some_iff.1 h).1
  simp only [World.setCell]
  rw [Array.getElem?_modify, if_pos rfl, h]
  simp

/-- The row when k bytes are folded. -/
def rowAt (s : List UInt8) (z k : Nat) : List Value := ((s.take k).map fold ++ s.drop k).map (fun c : UInt8 => Value.int .u8 c.toNat) ++ List.replicate z (.int .u8 0)
theorem rowAt_length (s : List UInt8) (z k : Nat) (h : k ≤ s.length) : (rowAt s z k).length = s.length + z := by simp [rowAt]; omega
theorem rowAt_get (s : List UInt8) (z k : Nat) (h : k < s.length) : (rowAt s z k)[k]? = some (.int .u8 (s[k].toNat : Int)) := by
  unfold rowAt
  rw [List.getElem?_append_left (by simp; omega), List.getElem?_map, List.getElem?_append_right (by simp; omega)]
  simp [List.length_take, Nat.min_eq_left (Nat.le_of_lt h), h]
theorem rowAt_set (s : List UInt8) (z k : Nat) (h : k < s.length) : (rowAt s z k).set k (.int .u8 ((fold s[k]).toNat : Int)) = rowAt s z (k + 1) := by
  unfold rowAt
  rw [List.set_append_left _ _ (by simp; omega)]
  congr 1
  have e : (Value.int .u8 ((fold s[k]).toNat : Int)) = (fun c : UInt8 => Value.int .u8 c.toNat) (fold s[k]) := rfl
  rw [e, ← List.map_set]
  congr 1
  rw [List.set_append_right _ _ (by simp; omega)]
  have e2 : k - ((s.take k).map fold).length = 0 := by simp; omega
  rw [e2, List.drop_eq_getElem_cons h, List.set_cons_zero, List.take_succ_eq_append_getElem h, List.map_append]
  simp only [List.map_cons, List.map_nil, List.append_assoc, List.cons_append, List.nil_append]
theorem rowAt_same (s : List UInt8) (z k : Nat) (h : k < s.length) (he : fold s[k] = s[k]) : rowAt s z k = rowAt s z (k + 1) := by
  unfold rowAt
  congr 2
  rw [List.drop_eq_getElem_cons h, List.take_succ_eq_append_getElem h, List.map_append]
  simp only [List.map_cons, List.map_nil, List.append_assoc, List.cons_append, List.nil_append, he]

def RetS (s : ByteArray) (w : World) (e : Ending) (w' : World) : Prop := e = .returned (.string s) ∧ Below w.heap.size w w'

theorem fold_yes (c : UInt8) (h1 : 65 ≤ c.toNat) (h2 : c.toNat ≤ 90) : (fold c).toNat = c.toNat + 32 := by
  have := fold_up c (c.toNat - 65) (by omega) (by omega)
  omega
theorem fold_no (c : UInt8) (h : ¬ (65 ≤ c.toNat ∧ c.toNat ≤ 90)) : fold c = c := by unfold fold; rw [if_neg h]

set_option maxHeartbeats 1000000 in
theorem fold_any (s : ByteArray) (w : World) (hs : s.size ≤ 1048576) : Calls Try.prog 11 #[.string s] w (RetS ⟨(s.data.toList.map fold).toArray⟩ w) := by
  have hcv := fun (w : World) => run_bytes_of_string (P := Try.prog) w 9 25 5 s Try.underlying9 Try.underlying25 Try.underlying5
  obtain ⟨z, hz⟩ : ∃ z, z = grownCap w s.size 0 5 - s.size := ⟨_, rfl⟩
  have hge := grownCap_ge w s.size 0 5
  have hrow : bytesRow s (grownCap w s.size 0 5) = (rowAt s.data.toList z 0).toArray := by
    apply Array.ext'
    simp [bytesRow, rowAt, hz]
  have HR := hid hrow
  have hl : (rowAt s.data.toList z 0).length = s.size + z := by rw [rowAt_length _ _ _ (by omega)]; rfl
  have hcw := hcv w
  rw [hrow] at hcw
  clear hcv hrow
  obtain ⟨cap, hcap⟩ : ∃ cap, cap = grownCap w s.size 0 5 := ⟨_, rfl⟩
  rw [← hcap] at hcw hge hz
  clear hcap
  have HB0 := hid (show BRow (w.drew.alloc (.cells (rowAt s.data.toList z 0).toArray 5 ((rowAt s.data.toList z 0).toArray.size, (rowAt s.data.toList z 0).toArray.size + 1))) w.heap.size (rowAt s.data.toList z 0) by
    unfold BRow
    have := heap_alloc_new w.drew (.cells (rowAt s.data.toList z 0).toArray 5 ((rowAt s.data.toList z 0).toArray.size, (rowAt s.data.toList z 0).toArray.size + 1))
    simpa using this)
  have HBl := hid (show Below w.heap.size w (w.drew.alloc (.cells (rowAt s.data.toList z 0).toArray 5 ((rowAt s.data.toList z 0).toArray.size, (rowAt s.data.toList z 0).toArray.size + 1))) from (Below.refl _ _).drew.alloc (Nat.le_refl _) _)
  generalize (w.drew.alloc (.cells (rowAt s.data.toList z 0).toArray 5 ((rowAt s.data.toList z 0).toArray.size, (rowAt s.data.toList z 0).toArray.size + 1))) = w1 at *
  clear hl hz
  go_enter Try.func11, Try.ntmps11
  go_wp2
  clear hcw
  go_loopg [10] s.size (fun gm iv wr => ∃ k : Nat, gm = s.size - k ∧ k ≤ s.size ∧ iv = .int .i64 k ∧ BRow wr w.heap.size (rowAt s.data.toList z k) ∧ Below w.heap.size w wr)
  case atStart => exact ⟨0, rfl, by omega, rfl, HB0.out, HBl.out⟩
  case round =>
    clear HB0 HBl
    obtain ⟨k, rfl, hk, rfl, hR, hB⟩ := hrel
    have HRW := hid hR
    have HBl := hid hB
    clear hR hB
    by_cases hlt : k < s.size
    · have hlt1 : (k : Int) < s.size := by omega
      have hkl : k < s.data.toList.length := hlt
      have hrl := rowAt_length s.data.toList z k (by omega)
      have hg := rowAt_get s.data.toList z k hkl
      have cg : wr.cell? ⟨w.heap.size, k, none⟩ = some (.int .u8 (s.data.toList[k].toNat : Int)) := by
        rw [HRW.out.cell k (by rw [hrl]; omega)]
        rw [List.getElem?_eq_getElem (by rw [hrl]; omega)] at hg
        exact hg
      have fg := HRW.out.frozen k (by rw [hrl]; omega)
      have hst := rowAt_set s.data.toList z k hkl
      have hsm := rowAt_same s.data.toList z k hkl
      have HC := hid (show (s.data.toList[k]).toNat < 256 from UInt8.toNat_lt _)
      obtain ⟨c, hc⟩ : ∃ c, c = s.data.toList[k] := ⟨_, rfl⟩
      rw [← hc] at cg hst hsm HC
      have hn2 := HC.out
      by_cases hu : 65 ≤ c.toNat ∧ c.toNat ≤ 90
      · have HF := hid (fold_yes c hu.1 hu.2)
        have HK := hid (show BRow (wr.setCell ⟨w.heap.size, k, none⟩ (.int .u8 ((c.toNat : Int) + 32))) w.heap.size (rowAt s.data.toList z (k + 1)) by
          rw [← hst]
          have e : ((fold c).toNat : Int) = (c.toNat : Int) + 32 := by have := HF.out; omega
          rw [e]; exact HRW.out.set k _)
        obtain ⟨n, hn⟩ : ∃ n, c.toNat = n := ⟨_, rfl⟩
        rw [hn] at cg hn2 hu HK
        obtain ⟨u1, u2⟩ := hu
        have q1 : IntKind.u8.wrap ((n : Int) + 97) = (n : Int) + 97 := by rw [IntKind.wrap_u8']; omega
        have q2 : IntKind.u8.wrap ((n : Int) + 97 - 65) = (n : Int) + 32 := by rw [IntKind.wrap_u8']; omega
        clear hst hsm hg hrl hc hn HC HF
        go_wp2
        go_roundg (s.size - (k + 1))
        case measure => omega
        case rel =>
          refine ⟨k + 1, rfl, by omega, by go_num, ?_, HBl.out.setCell (Nat.le_refl _) _⟩
          first
            | exact HK.out
            | (have h := HK.out; simpa using h)
      · have HF := hid (fold_no c hu)
        have HK := hid (show BRow wr w.heap.size (rowAt s.data.toList z (k + 1)) by rw [← hsm (fold_no c hu)]; exact HRW.out)
        obtain ⟨n, hn⟩ : ∃ n, c.toNat = n := ⟨_, rfl⟩
        rw [hn] at cg hn2 hu
        have hu' : ¬ 65 ≤ n ∨ (65 ≤ n ∧ ¬ n ≤ 90) := by omega
        clear hst hsm hg hrl hc hn HC HF hu
        rcases hu' with hu | ⟨hu, hu2⟩
        all_goals
          go_wp2
          go_roundg (s.size - (k + 1))
          case measure => omega
          case rel => exact ⟨k + 1, rfl, by omega, by go_num, HK.out, HBl.out⟩
    · obtain rfl : k = s.size := by omega
      have hlt1 : ¬ (s.size : Int) < s.size := by omega
      have hcb := run_convert_bytes_back (P := Try.prog) wr 25 9 5 ⟨w.heap.size, 0, none⟩ cap (s.data.toList.map fold) Try.underlying25 Try.underlying5 Try.underlying9 (fun j hj => by
        simp only [List.length_map] at hj
        have hj2 : j < s.size := hj
        have hrl := rowAt_length s.data.toList z s.size (Nat.le_refl _)
        rw [Addr.add_lit, Nat.zero_add, HRW.out.cell j (by rw [hrl]; omega)]
        have : (rowAt s.data.toList z s.size)[j]? = some (.int .u8 (((s.data.toList.map fold)[j]'(by simpa using hj)).toNat : Int)) := by
          unfold rowAt
          have e : s.data.toList.take s.size = s.data.toList := List.take_length
          have e' : s.data.toList.drop s.size = [] := List.drop_length
          rw [e, e', List.append_nil, List.getElem?_append_left (by simpa using hj), List.getElem?_map, List.getElem?_eq_getElem (by simpa using hj)]
          rfl
        rw [List.getElem?_eq_getElem (by rw [hrl]; omega)] at this
        exact this)
      have e : (s.data.toList.map fold).length = s.size := by rw [List.length_map]; rfl
      rw [e] at hcb
      clear e
      generalize hFS : (⟨(s.data.toList.map fold).toArray⟩ : ByteArray) = fs at *
      have HFS := hid hFS
      clear hFS
      go_wp2
      go_ret
      exact ⟨rfl, HBl.out⟩

theorem zzfold_any (s : ByteArray) (w : World) (hs : s.size ≤ 1048576) : Calls Try.prog 6 #[.string s] w (RetS ⟨(s.data.toList.map fold).toArray⟩ w) := by
  have HF := hid (fold_any s w hs)
  generalize (⟨(s.data.toList.map fold).toArray⟩ : ByteArray) = fs at *
  go_enter Try.func6, Try.ntmps6
  go_wp2_with (fail)
  refine HF.out.mono ?_
  rintro e w1 ⟨rfl, hb⟩
  have HB := hid hb
  clear hb
  go_wp2_with (fail)
  go_ret
  exact ⟨rfl, HB.out⟩

def RetB (w : World) (e : Ending) (w' : World) : Prop := ∃ (b : Bool), e = .returned (.bool b) ∧ w = w'
theorem RetB.mk {w : World} {b : Bool} : RetB w (.returned (.bool b)) w := ⟨b, rfl, rfl⟩
theorem bytes_any (s : ByteArray) (w : World) (hs : s.size ≤ maxLen) : Calls Try.prog 5 #[.string s] w (RetB w) := by
  unfold maxLen at hs
  go_enter Try.func5, Try.ntmps5
  go_wp2
  all_goals (go_ret; exact RetB.mk)

def RetT (w : World) (e : Ending) (w' : World) : Prop := e = .returned (.bool true) ∧ Below w.heap.size w w'

set_option maxHeartbeats 1000000 in
theorem law_any (s : ByteArray) (w : World) (hs : s.size ≤ maxLen) : Calls Try.prog 3 #[.string s] w (RetT w) := by
  have HBY := hid (bytes_any s w hs)
  unfold maxLen at hs
  go_enter Try.func3, Try.ntmps3
  go_wp2_with (fail)
  refine HBY.out.mono ?_
  rintro e w' ⟨b, rfl, rfl⟩
  clear HBY
  cases b with
  | false =>
    go_wp2_with (fail)
    go_ret
    exact ⟨rfl, Below.refl _ _⟩
  | true =>
    by_cases h : s.size ≤ 1048576
    · go_wp2_with (fail)
      have hfz : (⟨(s.data.toList.map fold).toArray⟩ : ByteArray).size = s.size := by
        show ((s.data.toList.map fold).toArray).size = _
        rw [List.size_toArray, List.length_map]; rfl
      refine (zzfold_any s w h).mono ?_
      rintro e w1 ⟨rfl, hb⟩
      have HB := hid hb
      clear hb
      have hfg : ∀ k (hk : k < s.size), (⟨(s.data.toList.map fold).toArray⟩ : ByteArray)[k]'(by rw [hfz]; exact hk) = fold s[k] := by
        intro k hk
        show ((s.data.toList.map fold).toArray)[k]'_ = _
        simp
        rfl
      have HFG := hid hfg
      clear hfg
      generalize hfs : (⟨(s.data.toList.map fold).toArray⟩ : ByteArray) = fs at *
      clear hfs
      go_wp2_with (fail)
      go_loopg [4] s.size (fun gm iv wr => ∃ k : Nat, gm = s.size - k ∧ k ≤ s.size ∧ iv = .int .i64 k ∧ ∃ n, wr = w1.drewN n)
      case atStart => exact ⟨0, rfl, by omega, rfl, 0, rfl⟩
      case round =>
        obtain ⟨k, rfl, hk, rfl, n, hn⟩ := hrel
        have HN := hid hn
        clear hn
        by_cases hlt : k < s.size
        · have hlt1 : (k : Int) < s.size := by omega
          have hkk := HFG.out k hlt
          go_wp2_with (fail)
          go_quiet ((go_at_call 7; exact Calls.quiet_of_same (tableq s[k] _)))
          have hbb : (((fold s[k]).toNat : Int) != ((fold s[k]).toNat : Int)) = false := by simp
          go_wp2
          go_roundg (s.size - (k + 1))
          case measure => omega
          case rel => exact ⟨k + 1, rfl, by omega, by go_num, n + nq, by rw [HN.out, World.drewN_drewN]⟩
        · have hlt1 : ¬ (k : Int) < s.size := by omega
          go_wp2_with (fail)
          go_ret
          exact ⟨rfl, by rw [HN.out]; exact below_drewN HB.out _⟩
    · go_wp2_with (fail)
      go_ret
      exact ⟨rfl, Below.refl _ _⟩
end Go.Proofs.Qxb6602836a
