/-
  THE NORMALISING LOOP OF 'script', PLAIN.
-/
import Derived.Test.Qxb6603052aLay
namespace Go.Proofs.Qxb6603052a

/-- What the outer loop keeps: these edits are done, from i on they are as they were. -/
def NDone (E0 : List Ed) (i : Nat) (done : List Ed) : Prop := done.length = i ∧ i ≤ E0.length ∧ done ++ normE (E0.drop i) [] [] = normE E0 [] []

theorem NDone.zero (E0 : List Ed) : NDone E0 0 [] := ⟨rfl, Nat.zero_le _, rfl⟩

theorem NDone.end {E0 : List Ed} {i : Nat} {done : List Ed} (h : NDone E0 i done) (hi : E0.length ≤ i) : done ++ E0.drop i = normE E0 [] [] := by
  have h3 := h.2.2
  have e : E0.drop i = [] := List.drop_eq_nil_of_le hi
  rw [e] at h3 ⊢
  exact h3

theorem NDone.get {E0 : List Ed} {i : Nat} {done : List Ed} (h : NDone E0 i done) (t : Nat) (ht : i ≤ t) : (done ++ E0.drop i)[t]? = E0[t]? := by
  rw [List.getElem?_append_right (by rw [h.1]; exact ht), h.1, List.getElem?_drop]
  congr 1; omega

theorem NDone.length {E0 : List Ed} {i : Nat} {done : List Ed} (h : NDone E0 i done) : (done ++ E0.drop i).length = E0.length := by
  have := h.2.1
  rw [List.length_append, h.1, List.length_drop]; omega

theorem NDone.keep {E0 : List Ed} {i : Nat} {done : List Ed} {e : Ed} (h : NDone E0 i done) (he : E0[i]? = some e) (hk : e.1 = 32) : NDone E0 (i + 1) (done ++ [e]) ∧ done ++ [e] ++ E0.drop (i + 1) = done ++ E0.drop i := by
  have hi := (List.getElem?_eq_some_iff.1 he).1
  have hd : E0.drop i = e :: E0.drop (i + 1) := by
    rw [List.drop_eq_getElem_cons hi]
    congr 1
    exact (List.getElem?_eq_some_iff.1 he).2
  obtain ⟨h1, h2, h3⟩ := h
  refine ⟨⟨by simp [h1], hi, ?_⟩, by rw [hd]; simp⟩
  rw [hd, normE, if_pos hk] at h3
  simpa using h3

/-- What the inner loop keeps: R removed and A added of t edits from i on. -/
def NRun (E0 : List Ed) (i t : Nat) (R A : List Ed) : Prop := R.length + A.length = t ∧ normE (E0.drop (i + t)) R A = normE (E0.drop i) [] []

theorem NRun.zero (E0 : List Ed) (i : Nat) : NRun E0 i 0 [] [] := ⟨rfl, rfl⟩

theorem NRun.rem {E0 : List Ed} {i t : Nat} {R A : List Ed} {e : Ed} (h : NRun E0 i t R A) (he : E0[i + t]? = some e) (hk : e.1 = 45) : NRun E0 i (t + 1) (R ++ [e]) A := by
  have hi := (List.getElem?_eq_some_iff.1 he).1
  have hd : E0.drop (i + t) = e :: E0.drop (i + (t + 1)) := by
    rw [List.drop_eq_getElem_cons hi]
    congr 1
    exact (List.getElem?_eq_some_iff.1 he).2
  obtain ⟨h1, h2⟩ := h
  refine ⟨by simp; omega, ?_⟩
  rw [hd, normE, if_neg (by rw [hk]; decide), if_pos hk] at h2
  exact h2

theorem NRun.add {E0 : List Ed} {i t : Nat} {R A : List Ed} {e : Ed} (h : NRun E0 i t R A) (he : E0[i + t]? = some e) (hk : e.1 ≠ 45) (hk2 : e.1 ≠ 32) : NRun E0 i (t + 1) R (A ++ [e]) := by
  have hi := (List.getElem?_eq_some_iff.1 he).1
  have hd : E0.drop (i + t) = e :: E0.drop (i + (t + 1)) := by
    rw [List.drop_eq_getElem_cons hi]
    congr 1
    exact (List.getElem?_eq_some_iff.1 he).2
  obtain ⟨h1, h2⟩ := h
  refine ⟨by simp; omega, ?_⟩
  rw [hd, normE, if_neg hk2, if_neg hk] at h2
  exact h2

theorem NDone.run {E0 : List Ed} {i t : Nat} {done R A : List Ed} (h : NDone E0 i done) (hr : NRun E0 i t R A) (hle : i + t ≤ E0.length) (hend : ∀ e, E0[i + t]? = some e → e.1 = 32) :
    NDone E0 (i + t) (done ++ (R ++ A)) := by
  obtain ⟨h1, h2, h3⟩ := h
  obtain ⟨r1, r2⟩ := hr
  refine ⟨by simp [h1]; omega, hle, ?_⟩
  rw [← h3, ← r2]
  cases hd : E0.drop (i + t) with
  | nil => simp [normE]
  | cons e l =>
    have he : E0[i + t]? = some e := by
      have := congrArg (fun l => l[0]?) hd
      simpa using this
    rw [normE, normE, if_pos (hend e he), if_pos (hend e he)]
    simp

theorem NDone.splice {E0 : List Ed} {i t : Nat} {done R A : List Ed} (h : NDone E0 i done) (hr : NRun E0 i t R A) :
    (done ++ E0.drop i).take i ++ (R ++ A) ++ (done ++ E0.drop i).drop (i + (R ++ A).length) = done ++ (R ++ A) ++ E0.drop (i + t) := by
  obtain ⟨h1, h2, h3⟩ := h
  obtain ⟨r1, r2⟩ := hr
  subst h1
  rw [List.take_left, List.length_append, r1, List.drop_append, List.drop_eq_nil_of_le (by omega), List.nil_append, List.drop_drop]
  congr 2; omega

end Go.Proofs.Qxb6603052a
