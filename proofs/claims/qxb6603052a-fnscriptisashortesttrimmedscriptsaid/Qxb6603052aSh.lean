/-
  ROWS OF NUMBERS, and where round d comes onto diagonal k.
-/
import Derived.Test.Qxb6603052aMem
import Derived.Test.Qxb6603052aMyers
namespace Go.Proofs.Qxb6603052a
open Go.RowKit
open My (F D L Vd sn same eqAt)

def irow (n : Nat) (r : Nat → Int) : List Value := (List.range n).map fun i => .int .i64 (r i)
theorem irow_length (n : Nat) (r : Nat → Int) : (irow n r).length = n := by simp [irow]
theorem irow_get (n : Nat) (r : Nat → Int) (i : Nat) (h : i < n) : (irow n r)[i]? = some (.int .i64 (r i)) := by simp [irow, h]
theorem irow_set (n : Nat) (r : Nat → Int) (i : Nat) (x : Int) : (irow n r).set i (.int .i64 x) = irow n (fun j => if j = i then x else r j) := by
  apply List.ext_getElem?
  intro t
  by_cases ht : t < n
  · rw [List.getElem?_set, irow_get _ _ _ ht, irow_get _ _ _ ht, irow_length]
    by_cases e : i = t
    · subst e; simp [ht]
    · rw [if_neg e, if_neg (by omega)]
  · rw [List.getElem?_eq_none (by simp [irow_length]; omega), List.getElem?_eq_none (by simp [irow_length]; omega)]
theorem irow_zero (n : Nat) : irow n (fun _ => 0) = List.replicate n (.int .i64 0) := by
  apply List.ext_getElem?
  intro t
  by_cases ht : t < n
  · rw [irow_get _ _ _ ht]; simp [ht]
  · rw [List.getElem?_eq_none (by simp [irow_length]; omega), List.getElem?_eq_none (by simp; omega)]
theorem irow_one (n : Nat) (r : Nat → Int) : ∀ v ∈ irow n r, v.oneCell' = true := by
  intro v hv
  obtain ⟨i, _, rfl⟩ := List.mem_map.1 hv
  rfl
theorem Blk.icell {w : World} {g n : Nat} {r : Nat → Int} (h : Blk w g 3 (irow n r)) (i : Nat) (hi : i < n) : w.cell? ⟨g, i, none⟩ = some (.int .i64 (r i)) := by
  have := h.cell i (by rw [irow_length]; exact hi)
  rw [this, ← irow_get n r i hi]; simp

section
variable (as bs : List ByteArray)

/-- Where round d comes onto diagonal k. -/
def st (d : Nat) (k : Int) : Int := match d with | 0 => 0 | j + 1 => My.start (F as bs j) j k

theorem F_st (d : Nat) (k : Int) (h : Vd d k) : F as bs d k = sn as bs k (st as bs d k) := by
  cases d with
  | zero => unfold Vd at h; rw [show k = 0 by omega]; rfl
  | succ d => rfl

theorem st_pos (d : Nat) (k : Int) (h : Vd d k) : 0 ≤ st as bs d k ∧ k ≤ st as bs d k ∧ st as bs d k ≤ as.length + d ∧ st as bs d k - k ≤ bs.length + d := by
  have h1 := My.F_le as bs d k h
  have h2 := My.sn_ge as bs k (st as bs d k)
  rw [F_st as bs d k h] at h1
  cases d with
  | zero => unfold Vd at h; simp only [st] at *; omega
  | succ d =>
    have := My.start_pos as bs d k h
    simp only [st] at *
    omega

end
end Go.Proofs.Qxb6603052a
