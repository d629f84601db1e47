/-
  THE COVER MODEL'S TWO SWEEPS, PLAIN.
-/
import Derived.Test.Qxb6602717aHun
import Derived.Test.Qxb6602717aSh
namespace Go.Proofs.Qxb6602717a
open Go.RowKit
open My (near)

def brow (n : Nat) (r : Nat → Bool) : List Value := (List.range n).map fun i => .bool (r i)
theorem brow_length (n : Nat) (r : Nat → Bool) : (brow n r).length = n := by simp [brow]
theorem brow_get (n : Nat) (r : Nat → Bool) (i : Nat) (h : i < n) : (brow n r)[i]? = some (.bool (r i)) := by simp [brow, h]
theorem brow_set (n : Nat) (r : Nat → Bool) (i : Nat) (x : Bool) : (brow n r).set i (.bool x) = brow n (fun j => if j = i then x else r j) := by
  apply List.ext_getElem?
  intro t
  by_cases ht : t < n
  · rw [List.getElem?_set, brow_get _ _ _ ht, brow_get _ _ _ ht, brow_length]
    by_cases e : i = t
    · subst e; simp [ht]
    · rw [if_neg e, if_neg (by omega)]
  · rw [List.getElem?_eq_none (by simp [brow_length]; omega), List.getElem?_eq_none (by simp [brow_length]; omega)]
theorem brow_zero (n : Nat) : brow n (fun _ => false) = List.replicate n (.bool false) := by
  apply List.ext_getElem?
  intro t
  by_cases ht : t < n
  · rw [brow_get _ _ _ ht]; simp [ht]
  · rw [List.getElem?_eq_none (by simp [brow_length]; omega), List.getElem?_eq_none (by simp; omega)]
theorem Blk.bcell {w : World} {g n : Nat} {r : Nat → Bool} (h : Blk w g 4 (brow n r)) (i : Nat) (hi : i < n) : w.cell? ⟨g, i, none⟩ = some (.bool (r i)) := by
  have := h.cell i (by rw [brow_length]; exact hi)
  rw [this, ← brow_get n r i hi]; simp

/-- Ahead: lines below t, covered from behind. -/
def Fw (ch : Nat → Bool) (C M t : Nat) (f : Nat → Bool) : Prop := ∀ u, u < M → (f u = true ↔ u < t ∧ ∃ v, v ≤ u ∧ ch v = true ∧ u ≤ v + C)
/-- The last changed line below t. -/
def Lst (ch : Nat → Bool) (t : Nat) (z : Int) : Prop := (z = -1 ∧ ∀ v, v < t → ch v = false) ∨ ∃ v : Nat, z = v ∧ v < t ∧ ch v = true ∧ ∀ v', v < v' → v' < t → ch v' = false
/-- Back: lines from t on covered from either side. -/
def Bw (ch : Nat → Bool) (C M t : Nat) (f : Nat → Bool) : Prop := ∀ u, u < M → (f u = true ↔ (∃ v, v ≤ u ∧ ch v = true ∧ u ≤ v + C) ∨ (t ≤ u ∧ ∃ v, u ≤ v ∧ ch v = true ∧ v ≤ u + C))
/-- The next changed line from t on. -/
def Nxt (ch : Nat → Bool) (t : Nat) (z : Int) : Prop := (z = -1 ∧ ∀ v, t ≤ v → ch v = false) ∨ ∃ v : Nat, z = v ∧ t ≤ v ∧ ch v = true ∧ ∀ v', t ≤ v' → v' < v → ch v' = false

theorem Fw.start (ch : Nat → Bool) (C M : Nat) : Fw ch C M 0 (fun _ => false) := fun u _ => ⟨fun h => (by cases h), fun h => (by omega)⟩
theorem Lst.start (ch : Nat → Bool) : Lst ch 0 (-1) := .inl ⟨rfl, fun v hv => by omega⟩
theorem Fw.yes {ch : Nat → Bool} {C M t : Nat} {f : Nat → Bool} (h : Fw ch C M t f) (v : Nat) (hv : v ≤ t) (hc : ch v = true) (hd : t ≤ v + C) : Fw ch C M (t + 1) (fun j => if j = t then true else f j) := by
  intro u hu
  dsimp only
  by_cases e : u = t
  · subst e; simp only [if_true, true_iff]; exact ⟨by omega, v, hv, hc, hd⟩
  · rw [if_neg e, h u hu]
    constructor
    · rintro ⟨h1, h2⟩; exact ⟨by omega, h2⟩
    · rintro ⟨h1, h2⟩; exact ⟨by omega, h2⟩
theorem Fw.no {ch : Nat → Bool} {C M t : Nat} {f : Nat → Bool} (h : Fw ch C M t f) (hn : ∀ v, v ≤ t → ch v = true → ¬ t ≤ v + C) : Fw ch C M (t + 1) f := by
  intro u hu
  rw [h u hu]
  constructor
  · rintro ⟨h1, h2⟩; exact ⟨by omega, h2⟩
  · rintro ⟨h1, v, h2, h3, h4⟩
    by_cases e : u = t
    · subst e; exact absurd h4 (hn v h2 h3)
    · exact ⟨by omega, v, h2, h3, h4⟩
theorem Lst.here {ch : Nat → Bool} {t : Nat} (hc : ch t = true) : Lst ch (t + 1) t := .inr ⟨t, rfl, by omega, hc, fun v' h1 h2 => by omega⟩
theorem Lst.none {ch : Nat → Bool} {t : Nat} (h : ∀ v, v < t → ch v = false) (hc : ch t = false) : Lst ch (t + 1) (-1) := .inl ⟨rfl, fun v hv => by
  by_cases e : v = t
  · rw [e]; exact hc
  · exact h v (by omega)⟩
theorem Lst.old {ch : Nat → Bool} {t v : Nat} (h0 : v < t) (h1 : ch v = true) (h2 : ∀ v', v < v' → v' < t → ch v' = false) (hc : ch t = false) : Lst ch (t + 1) v := .inr ⟨v, rfl, by omega, h1, fun v' h3 h4 => by
  by_cases e : v' = t
  · rw [e]; exact hc
  · exact h2 v' h3 (by omega)⟩
theorem no_none {ch : Nat → Bool} {t : Nat} (C : Nat) (h : ∀ v, v < t → ch v = false) (hc : ch t = false) : ∀ v, v ≤ t → ch v = true → ¬ t ≤ v + C := fun v h1 h2 => by
  by_cases e : v = t
  · rw [e, hc] at h2; cases h2
  · rw [h v (by omega)] at h2; cases h2
theorem no_old {ch : Nat → Bool} {t v0 C : Nat} (h2 : ∀ v', v0 < v' → v' < t → ch v' = false) (hc : ch t = false) (hd : ¬ t ≤ v0 + C) : ∀ v, v ≤ t → ch v = true → ¬ t ≤ v + C := fun v h3 h4 => by
  by_cases e : v = t
  · rw [e, hc] at h4; cases h4
  · by_cases e2 : v0 < v
    · rw [h2 v e2 (by omega)] at h4; cases h4
    · omega

theorem Bw.start {ch : Nat → Bool} {C M : Nat} {f : Nat → Bool} (h : Fw ch C M M f) : Bw ch C M M f := fun u hu => by
  rw [h u hu]
  constructor
  · rintro ⟨_, h⟩; exact .inl h
  · rintro (h | ⟨h, _⟩)
    · exact ⟨hu, h⟩
    · omega
theorem Nxt.start {ch : Nat → Bool} {M : Nat} (hM : ∀ u, ch u = true → u < M) : Nxt ch M (-1) := .inl ⟨rfl, fun v hv => by
  apply Bool.eq_false_iff.2; intro h; have := hM v h; omega⟩
theorem Bw.yes {ch : Nat → Bool} {C M t : Nat} {f : Nat → Bool} (h : Bw ch C M (t + 1) f) (v : Nat) (hv : t ≤ v) (hc : ch v = true) (hd : v ≤ t + C) : Bw ch C M t (fun j => if j = t then true else f j) := by
  intro u hu
  dsimp only
  by_cases e : u = t
  · subst e; simp only [if_true, true_iff]; exact .inr ⟨by omega, v, hv, hc, hd⟩
  · rw [if_neg e, h u hu]
    constructor
    · rintro (h1 | ⟨h1, h2⟩)
      · exact .inl h1
      · exact .inr ⟨by omega, h2⟩
    · rintro (h1 | ⟨h1, h2⟩)
      · exact .inl h1
      · exact .inr ⟨by omega, h2⟩
theorem Bw.no {ch : Nat → Bool} {C M t : Nat} {f : Nat → Bool} (h : Bw ch C M (t + 1) f) (hn : ∀ v, t ≤ v → ch v = true → ¬ v ≤ t + C) : Bw ch C M t f := by
  intro u hu
  rw [h u hu]
  constructor
  · rintro (h1 | ⟨h1, h2⟩)
    · exact .inl h1
    · exact .inr ⟨by omega, h2⟩
  · rintro (h1 | ⟨h1, v, h2, h3, h4⟩)
    · exact .inl h1
    · by_cases e : u = t
      · subst e; exact absurd h4 (hn v h2 h3)
      · exact .inr ⟨by omega, v, h2, h3, h4⟩
theorem Nxt.here {ch : Nat → Bool} {t : Nat} (hc : ch t = true) : Nxt ch t t := .inr ⟨t, rfl, by omega, hc, fun v' h1 h2 => by omega⟩
theorem Nxt.none {ch : Nat → Bool} {t : Nat} (h : ∀ v, t + 1 ≤ v → ch v = false) (hc : ch t = false) : Nxt ch t (-1) := .inl ⟨rfl, fun v hv => by
  by_cases e : v = t
  · rw [e]; exact hc
  · exact h v (by omega)⟩
theorem Nxt.old {ch : Nat → Bool} {t v : Nat} (h0 : t + 1 ≤ v) (h1 : ch v = true) (h2 : ∀ v', t + 1 ≤ v' → v' < v → ch v' = false) (hc : ch t = false) : Nxt ch t v := .inr ⟨v, rfl, by omega, h1, fun v' h3 h4 => by
  by_cases e : v' = t
  · rw [e]; exact hc
  · exact h2 v' (by omega) h4⟩
theorem nxt_none {ch : Nat → Bool} {t : Nat} (C : Nat) (h : ∀ v, t + 1 ≤ v → ch v = false) (hc : ch t = false) : ∀ v, t ≤ v → ch v = true → ¬ v ≤ t + C := fun v h1 h2 => by
  by_cases e : v = t
  · rw [e, hc] at h2; cases h2
  · rw [h v (by omega)] at h2; cases h2
theorem nxt_old {ch : Nat → Bool} {t v0 C : Nat} (h2 : ∀ v', t + 1 ≤ v' → v' < v0 → ch v' = false) (hc : ch t = false) (hd : ¬ v0 ≤ t + C) : ∀ v, t ≤ v → ch v = true → ¬ v ≤ t + C := fun v h3 h4 => by
  by_cases e : v = t
  · rw [e, hc] at h4; cases h4
  · by_cases e2 : v < v0
    · rw [h2 v (by omega) e2] at h4; cases h4
    · omega
theorem Bw.near {ch : Nat → Bool} {C M : Nat} {f : Nat → Bool} (h : Bw ch C M 0 f) (hM : ∀ u, ch u = true → u < M) : ∀ t, t < M → (f t = true ↔ near ch C M t) := fun t ht => by
  rw [h t ht]
  constructor
  · rintro (⟨v, h1, h2, h3⟩ | ⟨_, v, h1, h2, h3⟩)
    · exact ⟨v, hM v h2, h2, h3, by omega⟩
    · exact ⟨v, hM v h2, h2, by omega, h3⟩
  · rintro ⟨v, h1, h2, h3, h4⟩
    by_cases e : v ≤ t
    · exact .inl ⟨v, e, h2, h3⟩
    · exact .inr ⟨by omega, v, by omega, h2, h4⟩
end Go.Proofs.Qxb6602717a
