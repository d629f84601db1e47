/-
  HUNKS, PLAIN: the runs that 'Hunks' lays are the covered runs.
-/
import Derived.Test.Qxb6602717aPlain
namespace Go.Proofs.Qxb6602717a.My

/-- Is line t changed? -/
def chg (LS : List (UInt8 × Nat × Nat)) (t : Nat) : Bool := match LS[t]? with | some q => q.1 != 32 | none => false

theorem chg_some {LS : List (UInt8 × Nat × Nat)} {t : Nat} {q : UInt8 × Nat × Nat} (h : LS[t]? = some q) : chg LS t = (q.1 != 32) := by unfold chg; rw [h]
theorem chg_lt {LS : List (UInt8 × Nat × Nat)} {t : Nat} (h : chg LS t = true) : t < LS.length := by
  unfold chg at h
  cases hq : LS[t]? with
  | none => rw [hq] at h; cases h
  | some q => exact (List.getElem?_eq_some_iff.1 hq).1

/-- Line t lies within C lines of a changed line ahead of i. -/
def near (ch : Nat → Bool) (C i t : Nat) : Prop := ∃ u, u < i ∧ ch u = true ∧ t ≤ u + C ∧ u ≤ t + C

structure HInv (ch : Nat → Bool) (C M i : Nat) (H : List (Nat × Nat)) : Prop where
  cov : ∀ t, t < M → (near ch C i t ↔ ∃ p ∈ H, p.1 ≤ t ∧ t < p.2)
  apart : H.Pairwise (fun p q => p.2 < q.1)
  ends : ∀ p ∈ H, p.1 < p.2 ∧ p.2 ≤ M ∧ ∀ u, i ≤ u → ch u = true → p.2 + C < u
  len : H.length ≤ i

structure EInv (ch : Nat → Bool) (C i e j : Nat) : Prop where
  cov : ∀ t, i ≤ t + C → t < e + C → ∃ u, i ≤ u ∧ u < e ∧ ch u = true ∧ t ≤ u + C ∧ u ≤ t + C
  kept : ∀ u, e ≤ u → u < j → ch u = false

theorem HInv.start (ch : Nat → Bool) (C M : Nat) : HInv ch C M 0 [] :=
  ⟨fun t _ => ⟨fun ⟨u, hu, _⟩ => by omega, fun ⟨p, hp, _⟩ => by simp at hp⟩, List.Pairwise.nil, fun p hp => by simp at hp, by simp⟩

theorem HInv.skip {ch : Nat → Bool} {C M i : Nat} {H : List (Nat × Nat)} (h : HInv ch C M i H) (hc : ch i = false) : HInv ch C M (i + 1) H := by
  refine ⟨fun t ht => ?_, h.apart, fun p hp => ?_, by have := h.len; omega⟩
  · rw [← h.cov t ht]
    constructor
    · rintro ⟨u, h1, h2, h3⟩
      have : u ≠ i := by rintro rfl; rw [hc] at h2; cases h2
      exact ⟨u, by omega, h2, h3⟩
    · rintro ⟨u, h1, h2⟩; exact ⟨u, by omega, h2⟩
  · obtain ⟨h1, h2, h3⟩ := h.ends p hp
    exact ⟨h1, h2, fun u hu => h3 u (by omega)⟩

theorem EInv.start {ch : Nat → Bool} (C i : Nat) (hc : ch i = true) : EInv ch C i (i + 1) (i + 1) :=
  ⟨fun t h1 h2 => ⟨i, by omega, by omega, hc, by omega, by omega⟩, fun u h1 h2 => by omega⟩

theorem EInv.keep {ch : Nat → Bool} {C i e j : Nat} (h : EInv ch C i e j) (hc : ch j = false) : EInv ch C i e (j + 1) :=
  ⟨h.cov, fun u h1 h2 => by
    by_cases e' : u = j
    · rw [e']; exact hc
    · exact h.kept u h1 (by omega)⟩

theorem EInv.grow {ch : Nat → Bool} {C i e j : Nat} (h : EInv ch C i e j) (hie : i < e) (hej : e ≤ j) (hj : j ≤ e + 2 * C) (hc : ch j = true) : EInv ch C i (j + 1) (j + 1) :=
  ⟨fun t h1 h2 => by
    by_cases e' : t < e + C
    · obtain ⟨u, a, b, c⟩ := h.cov t h1 e'
      exact ⟨u, a, by omega, c⟩
    · exact ⟨j, by omega, by omega, hc, by omega, by omega⟩, fun u h1 h2 => by omega⟩

theorem HInv.hunk {ch : Nat → Bool} {C M i e j : Nat} {H : List (Nat × Nat)} (h : HInv ch C M i H) (he : EInv ch C i e j) (hie : i < e) (heM : e ≤ M) (hx : M ≤ j ∨ e + 2 * C < j) (hM : ∀ u, ch u = true → u < M) (hi : ch i = true) :
    HInv ch C M e (H ++ [(i - C, min (e + C) M)]) := by
  have far : ∀ u, e ≤ u → ch u = true → e + 2 * C < u := by
    intro u h1 h2
    have h3 : ¬ u < j := fun h4 => by rw [he.kept u h1 h4] at h2; cases h2
    have h5 := hM u h2
    omega
  refine ⟨fun t ht => ?_, ?_, fun p hp => ?_, by have := h.len; simp; omega⟩
  · constructor
    · rintro ⟨u, h1, h2, h3, h4⟩
      by_cases hu : u < i
      · obtain ⟨p, hp, h5⟩ := (h.cov t ht).1 ⟨u, hu, h2, h3, h4⟩
        exact ⟨p, by simp [hp], h5⟩
      · exact ⟨(i - C, min (e + C) M), by simp, by simp only; omega⟩
    · rintro ⟨p, hp, h1, h2⟩
      rcases List.mem_append.1 hp with hp | hp
      · obtain ⟨u, h3, h4⟩ := (h.cov t ht).2 ⟨p, hp, h1, h2⟩
        exact ⟨u, by omega, h4⟩
      · simp at hp; subst hp
        obtain ⟨u, a, b, c⟩ := he.cov t (by simp only at h1; omega) (by simp only at h2; omega)
        exact ⟨u, b, c⟩
  · rw [List.pairwise_append]
    refine ⟨h.apart, by simp, fun p hp q hq => ?_⟩
    simp at hq; subst hq
    have := (h.ends p hp).2.2 i (Nat.le_refl _) hi
    simp only; omega
  · rcases List.mem_append.1 hp with hp | hp
    · obtain ⟨h1, h2, h3⟩ := h.ends p hp
      exact ⟨h1, h2, fun u hu => h3 u (by omega)⟩
    · simp at hp; subst hp
      refine ⟨by simp only; omega, by simp only; omega, fun u h1 h2 => ?_⟩
      have := far u h1 h2
      simp only; omega

/-- The maximal runs of f, from p on. -/
def Runs (f : Nat → Bool) (M : Nat) : Nat → List (Nat × Nat) → Prop
  | p, [] => ∀ t, p ≤ t → t < M → f t = false
  | p, q :: H => p ≤ q.1 ∧ q.1 < q.2 ∧ q.2 ≤ M ∧ (∀ t, p ≤ t → t < q.1 → f t = false) ∧ (∀ t, q.1 ≤ t → t < q.2 → f t = true) ∧ (q.2 < M → f q.2 = false) ∧ Runs f M q.2 H

theorem runs_of (f : Nat → Bool) (M : Nat) (H : List (Nat × Nat)) (p : Nat) (ha : H.Pairwise (fun p q => p.2 < q.1)) (he : ∀ q ∈ H, q.1 < q.2 ∧ q.2 ≤ M) (hp : ∀ q ∈ H, p ≤ q.1)
    (hf : ∀ t, p ≤ t → t < M → (f t = true ↔ ∃ q ∈ H, q.1 ≤ t ∧ t < q.2)) : Runs f M p H := by
  induction H generalizing p with
  | nil =>
    intro t h1 h2
    apply Bool.eq_false_iff.2
    intro h
    obtain ⟨q, hq, _⟩ := (hf t h1 h2).1 h
    simp at hq
  | cons x H ih =>
    rw [List.pairwise_cons] at ha
    obtain ⟨ha1, ha2⟩ := ha
    have hx := he x (by simp)
    have hpx := hp x (by simp)
    refine ⟨hpx, hx.1, hx.2, fun t h1 h2 => ?_, fun t h1 h2 => (hf t (by omega) (by omega)).2 ⟨x, by simp, h1, h2⟩, fun h => ?_, ?_⟩
    · apply Bool.eq_false_iff.2
      intro h
      obtain ⟨q, hq, h3, h4⟩ := (hf t h1 (by omega)).1 h
      rcases List.mem_cons.1 hq with rfl | hq
      · omega
      · have := ha1 q hq; omega
    · apply Bool.eq_false_iff.2
      intro h'
      obtain ⟨q, hq, h3, h4⟩ := (hf x.2 (by omega) h).1 h'
      rcases List.mem_cons.1 hq with rfl | hq
      · omega
      · have := ha1 q hq; omega
    · refine ih x.2 ha2 (fun q hq => he q (by simp [hq])) (fun q hq => by have := ha1 q hq; omega) (fun t h1 h2 => ?_)
      rw [hf t (by omega) h2]
      constructor
      · rintro ⟨q, hq, h3, h4⟩
        rcases List.mem_cons.1 hq with rfl | hq
        · omega
        · exact ⟨q, hq, h3, h4⟩
      · rintro ⟨q, hq, h3⟩; exact ⟨q, by simp [hq], h3⟩

theorem HInv.runs {ch : Nat → Bool} {C M : Nat} {H : List (Nat × Nat)} (h : HInv ch C M M H) (f : Nat → Bool) (hf : ∀ t, t < M → (f t = true ↔ near ch C M t)) : Runs f M 0 H :=
  runs_of f M H 0 h.apart (fun q hq => ⟨(h.ends q hq).1, (h.ends q hq).2.1⟩) (fun q _ => Nat.zero_le _) (fun t _ ht => by rw [hf t ht]; exact h.cov t ht)

theorem Runs.skip {f : Nat → Bool} {M p : Nat} {H : List (Nat × Nat)} (h : Runs f M p H) (hp : f p = false) : Runs f M (p + 1) H := by
  cases H with
  | nil => intro t h1 h2; exact h t (by omega) h2
  | cons x H =>
    obtain ⟨h1, h2, h3, h4, h5, h6, h7⟩ := h
    have : p ≠ x.1 := by rintro rfl; rw [h5 _ (Nat.le_refl _) h2] at hp; cases hp
    exact ⟨by omega, h2, h3, fun t a b => h4 t (by omega) b, h5, h6, h7⟩

theorem Runs.run {f : Nat → Bool} {M p : Nat} {H : List (Nat × Nat)} (h : Runs f M p H) (hM : p < M) (hp : f p = true) : ∃ hi H', H = (p, hi) :: H' ∧ p < hi ∧ hi ≤ M ∧ (∀ t, p ≤ t → t < hi → f t = true) ∧ (hi < M → f hi = false) ∧ Runs f M hi H' := by
  cases H with
  | nil => rw [h p (Nat.le_refl _) hM] at hp; cases hp
  | cons x H =>
    obtain ⟨h1, h2, h3, h4, h5, h6, h7⟩ := h
    have : p = x.1 := by
      by_cases e : p < x.1
      · rw [h4 p (Nat.le_refl _) e] at hp; cases hp
      · omega
    subst this
    exact ⟨x.2, H, rfl, h2, h3, h5, h6, h7⟩

end Go.Proofs.Qxb6602717a.My
