/-
  WHAT THE ROUNDS OF 'shortest' KEEP: plain facts on the row 'reached' and on 'rounds'.
-/
import Derived.Test.Qxb6602717aMyers
import Derived.Test.Qxb6602717aMem
namespace Go.Proofs.Qxb6602717a
open Go.RowKit
open My (F D L Vd sn same eqAt)

def irow (n : Nat) (r : Nat → Int) : List Value := (List.range n).map fun i => .int .i64 (r i)
theorem irow_length (n : Nat) (r : Nat → Int) : (irow n r).length = n := by simp [irow]
theorem irow_get (n : Nat) (r : Nat → Int) (i : Nat) (h : i < n) : (irow n r)[i]? = some (.int .i64 (r i)) := by simp [irow, h]
theorem irow_set (n : Nat) (r : Nat → Int) (i : Nat) (x : Int) : (irow n r).set i (.int .i64 x) = irow n (fun j => if j = i then x else r j) := by
  apply List.ext_getElem?
  intro t
  by_cases ht : t < n
  · rw [List.getElem?_set, irow_get _ _ _ ht, irow_get _ _ _ ht, irow_length]
    by_cases e : i = t
    · subst e; simp [ht]
    · rw [if_neg e, if_neg (by omega)]
  · rw [List.getElem?_eq_none (by simp [irow_length]; omega), List.getElem?_eq_none (by simp [irow_length]; omega)]
theorem irow_zero (n : Nat) : irow n (fun _ => 0) = List.replicate n (.int .i64 0) := by
  apply List.ext_getElem?
  intro t
  by_cases ht : t < n
  · rw [irow_get _ _ _ ht]; simp [ht]
  · rw [List.getElem?_eq_none (by simp [irow_length]; omega), List.getElem?_eq_none (by simp; omega)]
theorem irow_one (n : Nat) (r : Nat → Int) : ∀ v ∈ irow n r, v.oneCell' = true := by
  intro v hv
  obtain ⟨i, _, rfl⟩ := List.mem_map.1 hv
  rfl
theorem Blk.icell {w : World} {g n : Nat} {r : Nat → Int} (h : Blk w g 3 (irow n r)) (i : Nat) (hi : i < n) : w.cell? ⟨g, i, none⟩ = some (.int .i64 (r i)) := by
  have := h.cell i (by rw [irow_length]; exact hi)
  rw [this, ← irow_get n r i hi]; simp

section
variable (as bs : List ByteArray)

/-- Where round d comes onto diagonal k. -/
def st (d : Nat) (k : Int) : Int := match d with | 0 => 0 | j + 1 => My.start (F as bs j) j k

theorem F_st (d : Nat) (k : Int) (h : Vd d k) : F as bs d k = sn as bs k (st as bs d k) := by
  cases d with
  | zero => unfold Vd at h; rw [show k = 0 by omega]; rfl
  | succ d => rfl

theorem st_pos (d : Nat) (k : Int) (h : Vd d k) : 0 ≤ st as bs d k ∧ k ≤ st as bs d k ∧ st as bs d k ≤ as.length + d ∧ st as bs d k - k ≤ bs.length + d := by
  have h1 := My.F_le as bs d k h
  have h2 := My.sn_ge as bs k (st as bs d k)
  rw [F_st as bs d k h] at h1
  cases d with
  | zero => unfold Vd at h; simp only [st] at *; omega
  | succ d =>
    have := My.start_pos as bs d k h
    simp only [st] at *
    omega

/-- Ahead of round d. -/
structure RV (o : Int) (d : Nat) (r : Nat → Int) : Prop where
  bnd : ∀ i, 0 ≤ r i ∧ r i ≤ 40000
  zero : d = 0 → ∀ i, r i = 0
  prev : ∀ j, d = j + 1 → ∀ k, Vd j k → r (o + k).toNat = F as bs j k

/-- In round d, the diagonals below k done. -/
structure RI (o : Int) (d : Nat) (k : Int) (r : Nat → Int) : Prop where
  bnd : ∀ i, 0 ≤ r i ∧ r i ≤ 40000
  zero : d = 0 → k = 0 → ∀ i, r i = 0
  prev : ∀ j, d = j + 1 → ∀ k, Vd j k → r (o + k).toNat = F as bs j k
  par : (k + d) % 2 = 0
  lo : -(d : Int) ≤ k
  cur : ∀ k', Vd d k' → k' < k → r (o + k').toNat = F as bs d k'
  not : ∀ k', Vd d k' → k' < k → ¬ ((as.length : Int) ≤ F as bs d k' ∧ (bs.length : Int) ≤ F as bs d k' - k')

theorem pick_right (o : Int) (d : Nat) (r : Nat → Int) (k : Int) (h : RI as bs o d k r) (hv : Vd d k)
    (c : k = -(d : Int) ∨ (k ≠ (d : Int) ∧ r (o + k - 1).toNat < r (o + k + 1).toNat)) : r (o + k + 1).toNat = st as bs d k := by
  cases d with
  | zero => unfold Vd at hv; rw [h.zero rfl (by omega)]; rfl
  | succ j =>
    unfold Vd at hv
    by_cases c1 : k = -((j + 1 : Nat) : Int)
    · have e : r (o + k + 1).toNat = F as bs j (k + 1) := by rw [Int.add_assoc]; exact h.prev j rfl (k + 1) (by unfold Vd; omega)
      show _ = My.start _ _ _
      rw [e]; unfold My.start; rw [if_pos (by omega)]
    · have c2 := c.resolve_left c1
      have e : r (o + k + 1).toNat = F as bs j (k + 1) := by rw [Int.add_assoc]; exact h.prev j rfl (k + 1) (by unfold Vd; omega)
      have e' : r (o + k - 1).toNat = F as bs j (k - 1) := by rw [Int.add_sub_assoc]; exact h.prev j rfl (k - 1) (by unfold Vd; omega)
      show _ = My.start _ _ _
      rw [e] at c2 ⊢
      rw [e'] at c2
      unfold My.start; rw [if_pos (by omega)]

theorem pick_left (o : Int) (d : Nat) (r : Nat → Int) (k : Int) (h : RI as bs o d k r) (hv : Vd d k)
    (c1 : ¬ k = -(d : Int)) (c2 : k = (d : Int) ∨ ¬ r (o + k - 1).toNat < r (o + k + 1).toNat) : r (o + k - 1).toNat + 1 = st as bs d k := by
  cases d with
  | zero => unfold Vd at hv; omega
  | succ j =>
    unfold Vd at hv
    have e' : r (o + k - 1).toNat = F as bs j (k - 1) := by rw [Int.add_sub_assoc]; exact h.prev j rfl (k - 1) (by unfold Vd; omega)
    show _ = My.start _ _ _
    rw [e'] at c2 ⊢
    unfold My.start
    rw [if_neg]
    intro c
    rcases c with c | ⟨c, c3⟩
    · omega
    · have c4 := c2.resolve_left (by omega)
      have e : r (o + k + 1).toNat = F as bs j (k + 1) := by rw [Int.add_assoc]; exact h.prev j rfl (k + 1) (by unfold Vd; omega)
      rw [e] at c4
      omega

theorem RI_start (o : Int) (d : Nat) (r : Nat → Int) (h : RV as bs o d r) : RI as bs o d (-(d : Int)) r :=
  ⟨h.bnd, fun e _ => h.zero e, h.prev, by omega, by omega, fun k' hv hlt => by unfold Vd at hv; omega, fun k' hv hlt => by unfold Vd at hv; omega⟩

theorem RI_step (o : Int) (d : Nat) (k : Int) (r : Nat → Int) (h : RI as bs o d k r) (hd : d ≤ as.length + bs.length) (ho : o = as.length + bs.length + 1) (hkd : k ≤ d) (hsz : as.length + bs.length ≤ 20000)
    (hn : ¬ ((as.length : Int) ≤ F as bs d k ∧ (bs.length : Int) ≤ F as bs d k - k)) :
    RI as bs o d (k + 2) (fun i => if i = (o + k).toNat then F as bs d k else r i) := by
  have hv : Vd d k := ⟨h.lo, hkd, h.par⟩
  have hlo := h.lo
  have hpar := h.par
  have hle := My.F_le as bs d k hv
  have hps := My.F_pos as bs d k hv
  refine ⟨fun i => ?_, fun hz hk => by omega, fun j hj k' hv' => ?_, by omega, by omega, fun k' hv' hlt => ?_, fun k' hv' hlt => ?_⟩
  · split
    · omega
    · exact h.bnd i
  · unfold Vd at hv'
    rw [if_neg (by omega)]
    exact h.prev j hj k' hv'
  · unfold Vd at hv'
    by_cases e : k' = k
    · subst e; rw [if_pos rfl]
    · rw [if_neg (by omega)]
      exact h.cur k' hv' (by omega)
  · unfold Vd at hv'
    by_cases e : k' = k
    · subst e; exact hn
    · exact h.not k' hv' (by omega)

theorem RI_end (o : Int) (d : Nat) (k : Int) (r : Nat → Int) (h : RI as bs o d k r) (hk : (d : Int) < k) (hD : d ≤ D as bs) : RV as bs o (d + 1) r ∧ d + 1 ≤ D as bs := by
  refine ⟨⟨h.bnd, fun e => by omega, fun j hj k' hv' => ?_⟩, ?_⟩
  · obtain rfl : d = j := by omega
    exact h.cur k' hv' (by unfold Vd at hv'; omega)
  · by_cases e : d = D as bs
    · exfalso
      subst e
      have hv := My.Vd_D as bs
      have hF := My.F_D as bs
      apply h.not _ hv (by unfold Vd at hv; omega)
      rw [hF]; omega
    · omega

/-- One round's row, as 'rounds' keeps it. -/
def RowOk (d : Nat) (f : Nat → Int) : Prop := ∀ j, d = j + 1 → ∀ k, Vd j k → f (k + d + 1).toNat = F as bs j k

theorem RowOk_of (o : Int) (d : Nat) (r : Nat → Int) (h : RV as bs o d r) (ho : (d : Int) + 1 ≤ o) : RowOk as bs d (fun i => r ((o - d - 1).toNat + i)) := by
  intro j hj k hv
  dsimp only
  rw [← h.prev j hj k hv]
  unfold Vd at hv
  congr 1
  omega

/-- 'rounds', d rows of it. -/
def Rds (w : World) (B : Nat) (v : Value) (d : Nat) : Prop :=
  ∃ rv : Nat → Value, w.ownsRow B 46 1 v d ((List.range d).map rv) ∧ ∀ i, i < d → ∃ f, RowOk as bs i f ∧ w.ownsRow B 3 1 (rv i) (2 * i + 3) (irow (2 * i + 3) f)

theorem Rds_nil (w : World) (B : Nat) : Rds as bs w B (.slice none 0 0) 0 := ⟨fun _ => undef, World.ownsRow_nil _ _ _ _, fun i hi => by omega⟩

theorem Rds.below {w w' : World} {B : Nat} {v : Value} {d : Nat} (h : Rds as bs w B v d) (hb : Below w.heap.size w w') : Rds as bs w' B v d := by
  obtain ⟨rv, h1, h2⟩ := h
  refine ⟨rv, ownsRow_below h1 hb (Nat.le_refl _), fun i hi => ?_⟩
  obtain ⟨f, hf, ho⟩ := h2 i hi
  exact ⟨f, hf, ownsRow_below ho hb (Nat.le_refl _)⟩

theorem Rds.setCell {w : World} {B : Nat} {v : Value} {d : Nat} (h : Rds as bs w B v d) {a : Addr} (ha : a.block < B) (u : Value) : Rds as bs (w.setCell a u) B v d := by
  obtain ⟨rv, h1, h2⟩ := h
  refine ⟨rv, ownsRow_setCell_below h1 ha u, fun i hi => ?_⟩
  obtain ⟨f, hf, ho⟩ := h2 i hi
  exact ⟨f, hf, ownsRow_setCell_below ho ha u⟩

theorem Rds.step {w w' : World} {B : Nat} {v v' u : Value} {d : Nat} {f : Nat → Int} (h : Rds as bs w B v d) (hf : RowOk as bs d f) (hu : w.ownsRow B 3 1 u (2 * d + 3) (irow (2 * d + 3) f))
    (hg : w.grownBy w' v.ownBlock) (hv : ∀ rv : Nat → Value, w.ownsRow B 46 1 v d ((List.range d).map rv) → w'.ownsRow B 46 1 v' (d + 1) ((List.range d).map rv ++ [u])) : Rds as bs w' B v' (d + 1) := by
  obtain ⟨rv, h1, h2⟩ := h
  refine ⟨fun i => if i = d then u else rv i, ?_, fun i hi => ?_⟩
  · have h3 := hv rv h1
    have e : (List.range (d + 1)).map (fun i => if i = d then u else rv i) = (List.range d).map rv ++ [u] := by
      rw [List.range_succ, List.map_append]
      congr 1
      · apply List.map_congr_left
        intro i hi
        rw [if_neg (by have := List.mem_range.1 hi; omega)]
      · simp
    rw [e]; exact h3
  · by_cases e : i = d
    · subst e
      dsimp only
      rw [if_pos rfl]
      exact ⟨f, hf, hu.kept hg (own_ne hu h1 (by decide))⟩
    · dsimp only
      rw [if_neg e]
      obtain ⟨f', hf', ho⟩ := h2 i (by omega)
      exact ⟨f', hf', ho.kept hg (own_ne ho h1 (by decide))⟩

end
end Go.Proofs.Qxb6602717a
