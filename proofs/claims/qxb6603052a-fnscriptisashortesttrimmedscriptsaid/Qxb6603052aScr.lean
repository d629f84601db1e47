/-
  PLAIN MATHEMATICS, NO GO: the whole script of 'script', played; its form beyond the bound.
-/
import Derived.Test.Qxb6603052aPlay
namespace Go.Proofs.Qxb6603052a.My
section
variable {α : Type} [DecidableEq α]

theorem eqAt_mid (a b : List α) (p s i j : Nat) (h : eqAt (mid a p s) (mid b p s) i j = true) : eqAt a b (p + i) (p + j) = true := by
  have hl := eqAt_lt h
  rw [mid_length, mid_length] at hl
  rw [eqAt_iff (by rw [mid_length]; omega) (by rw [mid_length]; omega)] at h
  rw [eqAt_iff (by omega) (by omega)]
  apply decide_eq_true
  have := of_decide_eq_true h
  simpa [mid] using this

theorem play_mid (a b : List α) (p s : Nat) (l : List UInt8) (i j : Nat) (q : Nat × Nat) (h : play (mid a p s) (mid b p s) l (i, j) = some q) : play a b l (p + i, p + j) = some (p + q.1, p + q.2) := by
  induction l generalizing i j with
  | nil => simp only [play, Option.some.injEq] at h; subst h; rfl
  | cons o l ih =>
    rw [play] at h
    cases hs : stepO (mid a p s) (mid b p s) o (i, j) with
    | none => rw [hs] at h; cases h
    | some r =>
      rw [hs] at h
      have h2 : play (mid a p s) (mid b p s) l r = some q := h
      rcases stepO_inv _ _ _ _ _ _ hs with ⟨rfl, he, rfl⟩ | ⟨rfl, he, rfl⟩ | ⟨rfl, he, rfl⟩
      · rw [play, stepO_kept a b _ _ (eqAt_mid a b p s i j he)]
        exact ih (i + 1) (j + 1) h2
      · rw [mid_length] at he
        rw [play, stepO_removed a b _ _ (by omega)]
        exact ih (i + 1) j h2
      · rw [mid_length] at he
        rw [play, stepO_added a b _ _ (by omega)]
        exact ih i (j + 1) h2

theorem suf_eq (a b : List α) (p t : Nat) (h : t < suf a b p) : eqAt a b (a.length - suf a b p + t) (b.length - suf a b p + t) = true := by
  have hl := suf_le a b p
  have hs := (pre_spec (a.drop p).reverse (b.drop p).reverse).1 (suf a b p - 1 - t) (by show _ < suf a b p; omega)
  rw [eqAt_rev] at hs
  have h3 := (of_decide_eq_true hs).2.2
  have e1 : a.length - 1 - (suf a b p - 1 - t) = a.length - suf a b p + t := by omega
  have e2 : b.length - 1 - (suf a b p - 1 - t) = b.length - suf a b p + t := by omega
  rwa [e1, e2] at h3

theorem script_eq (a b : List α) : scriptOps a b = List.replicate (pre a b) 32 ++ shortestOps (mid a (pre a b) (suf a b (pre a b))) (mid b (pre a b) (suf a b (pre a b))) ++ List.replicate (suf a b (pre a b)) 32 := rfl

theorem script_play (a b : List α) : play a b (scriptOps a b) (0, 0) = some (a.length, b.length) := by
  have h1 := pre_le a b
  have h2 := suf_le a b (pre a b)
  have hs := pre_spec a b
  rw [script_eq, play_append, play_append, play_kept a b (pre a b) 0 0 (fun t ht => by simpa using hs.1 t ht)]
  have hm := play_mid a b (pre a b) (suf a b (pre a b)) _ 0 0 _ (shortest_plays (mid a (pre a b) (suf a b (pre a b))) (mid b (pre a b) (suf a b (pre a b))))
  simp only [Nat.add_zero] at hm
  show ((play a b _ (0 + pre a b, 0 + pre a b)).bind _) = _
  rw [Nat.zero_add, hm]
  show play a b _ (_, _) = _
  rw [mid_length, mid_length]
  rw [play_kept a b _ _ _ (fun t ht => by
    have := suf_eq a b (pre a b) t ht
    have e1 : pre a b + (a.length - suf a b (pre a b) - pre a b) + t = a.length - suf a b (pre a b) + t := by omega
    have e2 : pre a b + (b.length - suf a b (pre a b) - pre a b) + t = b.length - suf a b (pre a b) + t := by omega
    rw [e1, e2]; exact this)]
  congr 2 <;> omega

theorem script_count (a b : List α) (h : D a b ≤ 1000) : (scriptOps a b).count 32 = L a b a.length b.length := by
  have ht := trim a b
  have hs := (shortest_play (mid a (pre a b) (suf a b (pre a b))) (mid b (pre a b) (suf a b (pre a b))) (by rw [D_trim]; exact h)).2
  rw [script_eq, List.count_append, List.count_append, List.count_replicate_self, List.count_replicate_self, hs]
  unfold lcs at ht
  omega

/-- The lines' ops, played. -/
theorem norm_script_play (a b : List α) : play a b (norm (scriptOps a b) 0 0) (0, 0) = some (a.length, b.length) :=
  norm_play a b _ 0 0 0 0 _ (by omega) (by omega) (script_play a b)

theorem norm_removed (x : Nat) (l : List UInt8) (r s : Nat) : norm (List.replicate x 45 ++ l) r s = norm l (r + x) s := by
  induction x generalizing r with
  | zero => rfl
  | succ x ih => rw [List.replicate_succ, List.cons_append, norm, if_neg (by decide), if_pos rfl, ih]; congr 1; omega
theorem norm_added (x : Nat) (l : List UInt8) (r s : Nat) : norm (List.replicate x 43 ++ l) r s = norm l r (s + x) := by
  induction x generalizing s with
  | zero => rfl
  | succ x ih => rw [List.replicate_succ, List.cons_append, norm, if_neg (by decide), if_neg (by decide), ih]; congr 1; omega

/-- Beyond the bound: the common ends, and between them all removed, then all added. -/
theorem norm_script_block (a b : List α) (h : ¬ D a b ≤ 1000) : norm (scriptOps a b) 0 0 =
    List.replicate (pre a b) 32 ++ (List.replicate (a.length - suf a b (pre a b) - pre a b) 45 ++ (List.replicate (b.length - suf a b (pre a b) - pre a b) 43 ++ List.replicate (suf a b (pre a b)) 32)) := by
  have hd : ¬ D (mid a (pre a b) (suf a b (pre a b))) (mid b (pre a b) (suf a b (pre a b))) ≤ 1000 := by rw [D_trim]; exact h
  rw [script_eq]
  unfold shortestOps
  rw [if_neg hd, mid_length, mid_length, List.append_assoc, List.append_assoc, norm_kept, norm_removed, norm_added]
  congr 1
  rw [norm_flush _ (by
    cases suf a b (pre a b) with
    | zero => left; rfl
    | succ n => right; exact ⟨_, List.replicate_succ⟩)]
  have := norm_kept (suf a b (pre a b)) []
  simp only [List.append_nil] at this
  rw [this]
  simp [norm]

theorem block_get (x y z u t : Nat) (ht : t < x + y + z + u) :
    (List.replicate x (32 : UInt8) ++ (List.replicate y 45 ++ (List.replicate z 43 ++ List.replicate u 32)))[t]? = some (if t < x ∨ x + y + z ≤ t then 32 else if t < x + y then 45 else 43) := by
  by_cases c1 : t < x
  · rw [List.getElem?_append_left (by simpa using c1), if_pos (by omega)]; simp [c1]
  · rw [List.getElem?_append_right (by simp; omega)]
    simp only [List.length_replicate]
    by_cases c2 : t < x + y
    · rw [List.getElem?_append_left (by simp; omega), if_neg (by omega), if_pos c2, List.getElem?_replicate, if_pos (by omega)]
    · rw [List.getElem?_append_right (by simp; omega)]
      simp only [List.length_replicate]
      by_cases c3 : t < x + y + z
      · rw [List.getElem?_append_left (by simp; omega), if_neg (by omega), if_neg c2, List.getElem?_replicate, if_pos (by omega)]
      · rw [List.getElem?_append_right (by simp; omega), if_pos (by omega), List.getElem?_replicate, if_pos (by simp; omega)]

end
end Go.Proofs.Qxb6603052a.My
