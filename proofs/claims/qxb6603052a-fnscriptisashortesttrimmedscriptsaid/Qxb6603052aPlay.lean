/-
  PLAIN MATHEMATICS, NO GO: playing a script; the way back is a script; the runs put in order are a script; what the common ends do to the table.
-/
import Derived.Test.Qxb6603052aPlain
namespace Go.Proofs.Qxb6603052a.My
section
variable {α : Type} [DecidableEq α]

/-- One op at (i, j). -/
def stepO (a b : List α) (o : UInt8) (p : Nat × Nat) : Option (Nat × Nat) :=
  if o = 32 then (if eqAt a b p.1 p.2 = true then some (p.1 + 1, p.2 + 1) else none)
  else if o = 45 then (if p.1 < a.length then some (p.1 + 1, p.2) else none)
  else if o = 43 then (if p.2 < b.length then some (p.1, p.2 + 1) else none)
  else none

def play (a b : List α) : List UInt8 → Nat × Nat → Option (Nat × Nat)
  | [], p => some p
  | o :: os, p => (stepO a b o p).bind (play a b os)

theorem play_append (a b : List α) (l l' : List UInt8) (p : Nat × Nat) : play a b (l ++ l') p = (play a b l p).bind (play a b l') := by
  induction l generalizing p with
  | nil => rfl
  | cons o l ih =>
    simp only [List.cons_append, play]
    cases stepO a b o p with
    | none => rfl
    | some q => exact ih q

theorem stepO_kept (a b : List α) (i j : Nat) (h : eqAt a b i j = true) : stepO a b 32 (i, j) = some (i + 1, j + 1) := by simp [stepO, h]
theorem stepO_removed (a b : List α) (i j : Nat) (h : i < a.length) : stepO a b 45 (i, j) = some (i + 1, j) := by
  unfold stepO; rw [if_neg (by decide), if_pos rfl, if_pos h]
theorem stepO_added (a b : List α) (i j : Nat) (h : j < b.length) : stepO a b 43 (i, j) = some (i, j + 1) := by
  unfold stepO; rw [if_neg (by decide), if_neg (by decide), if_pos rfl, if_pos h]

theorem play_kept (a b : List α) (s i j : Nat) (h : ∀ t, t < s → eqAt a b (i + t) (j + t) = true) : play a b (List.replicate s 32) (i, j) = some (i + s, j + s) := by
  induction s generalizing i j with
  | zero => rfl
  | succ s ih =>
    rw [List.replicate_succ, play, stepO_kept a b i j (h 0 (by omega))]
    show play a b _ (i + 1, j + 1) = _
    rw [ih (i + 1) (j + 1) (fun t ht => by have := h (t + 1) (by omega); rwa [← Nat.add_assoc, ← Nat.add_assoc, Nat.add_right_comm, Nat.add_right_comm j] at this)]
    congr 2 <;> omega

theorem play_removed (a b : List α) (s i j : Nat) (h : i + s ≤ a.length) : play a b (List.replicate s 45) (i, j) = some (i + s, j) := by
  induction s generalizing i with
  | zero => rfl
  | succ s ih =>
    rw [List.replicate_succ, play, stepO_removed a b i j (by omega)]
    show play a b _ (i + 1, j) = _
    rw [ih (i + 1) (by omega)]
    congr 2; omega

theorem play_added (a b : List α) (s i j : Nat) (h : j + s ≤ b.length) : play a b (List.replicate s 43) (i, j) = some (i, j + s) := by
  induction s generalizing j with
  | zero => rfl
  | succ s ih =>
    rw [List.replicate_succ, play, stepO_added a b i j (by omega)]
    show play a b _ (i, j + 1) = _
    rw [ih (j + 1) (by omega)]
    congr 2; omega

/-- The way back, read forward, is a script. -/
theorem back_play (a b : List α) (d : Nat) : ∀ k, Vd d k → F a b d k ≤ a.length → F a b d k - k ≤ b.length → play a b (back a b d k).reverse (0, 0) = some ((F a b d k).toNat, (F a b d k - k).toNat) := by
  induction d with
  | zero =>
    intro k h h1 h2
    unfold Vd at h
    obtain rfl : k = 0 := by omega
    rw [back_zero, List.reverse_replicate]
    have := play_kept a b (F a b 0 0).toNat 0 0 (fun t ht => by
      have := sn_same a b 0 0 t (by omega) (by rw [F_zero] at ht; omega)
      have h3 := (same_iff.1 this).2.2
      simpa using h3)
    simpa using this
  | succ d ih =>
    intro k h h1 h2
    have hp := start_pos a b d k h
    have hge := sn_ge a b k (start (F a b d) d k)
    have hsm := sn_same a b k (start (F a b d) d k)
    have hFs := F_succ a b d k
    rw [back_succ, List.reverse_append, List.reverse_cons, List.reverse_replicate, play_append, play_append]
    have kept : ∀ i j : Nat, (i : Int) = start (F a b d) d k → (j : Int) = start (F a b d) d k - k → play a b (List.replicate (F a b (d + 1) k - start (F a b d) d k).toNat 32) (i, j) = some ((F a b (d + 1) k).toNat, (F a b (d + 1) k - k).toNat) := by
      intro i j hi hj
      rw [play_kept a b _ i j (fun t ht => ?_)]
      · congr 2 <;> omega
      · have := hsm (start (F a b d) d k + t) (by omega) (by rw [hFs] at ht; omega)
        have h3 := (same_iff.1 this).2.2
        have e1 : (start (F a b d) d k + (t : Int)).toNat = i + t := by omega
        have e2 : (start (F a b d) d k + (t : Int) - k).toNat = j + t := by omega
        rwa [e1, e2] at h3
    rcases fromK_cases (F a b d) d k h with ⟨hv, hf, hs, _⟩ | ⟨hv, hf, hs, _⟩
    · have hF := F_pos a b d _ hv
      rw [hf, if_pos rfl, ih _ hv (by omega) (by omega)]
      show (play a b [43] ((F a b d (k + 1)).toNat, (F a b d (k + 1) - (k + 1)).toNat)).bind _ = _
      have e : play a b [43] ((F a b d (k + 1)).toNat, (F a b d (k + 1) - (k + 1)).toNat) = some ((F a b d (k + 1)).toNat, (F a b d (k + 1) - (k + 1)).toNat + 1) := by
        rw [play, stepO_added _ _ _ _ (by omega)]; rfl
      rw [e]
      exact kept _ _ (by omega) (by omega)
    · have hF := F_pos a b d _ hv
      rw [hf, if_neg (by omega), ih _ hv (by omega) (by omega)]
      show (play a b [45] ((F a b d (k - 1)).toNat, (F a b d (k - 1) - (k - 1)).toNat)).bind _ = _
      have e : play a b [45] ((F a b d (k - 1)).toNat, (F a b d (k - 1) - (k - 1)).toNat) = some ((F a b d (k - 1)).toNat + 1, (F a b d (k - 1) - (k - 1)).toNat) := by
        rw [play, stepO_removed _ _ _ _ (by omega)]; rfl
      rw [e]
      exact kept _ _ (by omega) (by omega)

theorem back_count (a b : List α) (d : Nat) : ∀ k, Vd d k → (2 * (back a b d k).count 32 + d : Int) = F a b d k + (F a b d k - k) := by
  induction d with
  | zero =>
    intro k h
    have hp := F_pos a b 0 k h
    unfold Vd at h
    obtain rfl : k = 0 := by omega
    rw [back_zero, List.count_replicate_self]; omega
  | succ d ih =>
    intro k h
    have hp := start_pos a b d k h
    have hge := sn_ge a b k (start (F a b d) d k)
    have hFs := F_succ a b d k
    rw [back_succ, List.count_append, List.count_replicate_self]
    rcases fromK_cases (F a b d) d k h with ⟨hv, hf, hs, _⟩ | ⟨hv, hf, hs, _⟩
    · have := ih _ hv
      have hF := F_pos a b d _ hv
      rw [hf, if_pos rfl, List.count_cons_of_ne (by decide)]
      omega
    · have := ih _ hv
      have hF := F_pos a b d _ hv
      rw [hf, if_neg (by omega), List.count_cons_of_ne (by decide)]
      omega

/-- The greedy search's answer, within its bound. -/
theorem shortest_play (a b : List α) (h : D a b ≤ 1000) : play a b (shortestOps a b) (0, 0) = some (a.length, b.length) ∧ (shortestOps a b).count 32 = L a b a.length b.length := by
  have hv := Vd_D a b
  have hF := F_D a b
  have hD := D_eq a b
  unfold shortestOps
  rw [if_pos h]
  constructor
  · rw [back_play a b _ _ hv (by omega) (by omega), hF]
    congr 2; omega
  · rw [List.count_reverse]
    have := back_count a b _ _ hv
    omega

theorem play_all (a b : List α) : play a b (List.replicate a.length 45 ++ List.replicate b.length 43) (0, 0) = some (a.length, b.length) := by
  rw [play_append, play_removed a b _ 0 0 (by omega)]
  show play a b _ (0 + a.length, 0) = _
  rw [play_added a b _ _ 0 (by omega)]
  simp

theorem shortest_plays (a b : List α) : play a b (shortestOps a b) (0, 0) = some (a.length, b.length) := by
  by_cases h : D a b ≤ 1000
  · exact (shortest_play a b h).1
  · unfold shortestOps; rw [if_neg h]; exact play_all a b

theorem play_at (a b : List α) (l : List UInt8) (p q : Nat × Nat) (h : play a b l p = some q) (t : Nat) (o : UInt8) (ho : l[t]? = some o) (r : Nat × Nat) (hr : play a b (l.take t) p = some r) :
    ∃ r', stepO a b o r = some r' ∧ play a b (l.take (t + 1)) p = some r' := by
  have e : l.take (t + 1) = l.take t ++ [o] := by rw [List.take_add_one, ho]; rfl
  have ht : t < l.length := (List.getElem?_eq_some_iff.1 ho).1
  have h2 : l = l.take (t + 1) ++ l.drop (t + 1) := (List.take_append_drop _ _).symm
  rw [h2, play_append] at h
  cases h3 : play a b (l.take (t + 1)) p with
  | none => rw [h3] at h; cases h
  | some r' =>
    refine ⟨r', ?_, rfl⟩
    rw [e, play_append, hr] at h3
    have h4 : (stepO a b o r).bind (play a b []) = some r' := h3
    cases h5 : stepO a b o r with
    | none => rw [h5] at h4; cases h4
    | some x => rw [h5] at h4; exact h4

theorem stepO_inv (a b : List α) (o : UInt8) (i j : Nat) (r : Nat × Nat) (h : stepO a b o (i, j) = some r) :
    (o = 32 ∧ eqAt a b i j = true ∧ r = (i + 1, j + 1)) ∨ (o = 45 ∧ i < a.length ∧ r = (i + 1, j)) ∨ (o = 43 ∧ j < b.length ∧ r = (i, j + 1)) := by
  unfold stepO at h
  by_cases e1 : o = 32
  · left
    rw [if_pos e1] at h
    by_cases he : eqAt a b i j = true
    · rw [if_pos he] at h; exact ⟨e1, he, (Option.some.inj h).symm⟩
    · rw [if_neg he] at h; cases h
  · rw [if_neg e1] at h
    by_cases e2 : o = 45
    · right; left
      rw [if_pos e2] at h
      by_cases he : i < a.length
      · rw [if_pos he] at h; exact ⟨e2, he, (Option.some.inj h).symm⟩
      · rw [if_neg he] at h; cases h
    · rw [if_neg e2] at h
      by_cases e3 : o = 43
      · right; right
        rw [if_pos e3] at h
        by_cases he : j < b.length
        · rw [if_pos he] at h; exact ⟨e3, he, (Option.some.inj h).symm⟩
        · rw [if_neg he] at h; cases h
      · rw [if_neg e3] at h; cases h

/-- The runs put in order play alike. -/
theorem norm_play (a b : List α) (l : List UInt8) : ∀ (r s i j : Nat) (q : Nat × Nat), i + r ≤ a.length → j + s ≤ b.length → play a b l (i + r, j + s) = some q → play a b (norm l r s) (i, j) = some q := by
  have flush : ∀ r s i j, i + r ≤ a.length → j + s ≤ b.length → play a b (List.replicate r 45 ++ List.replicate s 43) (i, j) = some (i + r, j + s) := by
    intro r s i j h1 h2
    rw [play_append, play_removed a b r i j h1]
    exact play_added a b s (i + r) j h2
  induction l with
  | nil =>
    intro r s i j q h1 h2 h
    simp only [play, Option.some.injEq] at h
    subst h
    exact flush r s i j h1 h2
  | cons o l ih =>
    intro r s i j q h1 h2 h
    rw [play] at h
    by_cases e1 : o = 32
    · subst e1
      rw [norm, if_pos rfl, play_append, flush r s i j h1 h2]
      by_cases he : eqAt a b (i + r) (j + s) = true
      · rw [stepO_kept a b _ _ he] at h
        show (stepO a b 32 (i + r, j + s)).bind _ = _
        rw [stepO_kept a b _ _ he]
        have := eqAt_lt he
        exact ih 0 0 (i + r + 1) (j + s + 1) q (by omega) (by omega) h
      · simp [stepO, he] at h
    · rw [norm, if_neg e1]
      by_cases e2 : o = 45
      · subst e2
        rw [if_pos rfl]
        by_cases he : i + r < a.length
        · rw [stepO_removed a b _ _ he] at h
          exact ih (r + 1) s i j q (by omega) h2 h
        · simp [stepO, he] at h
      · rw [if_neg e2]
        by_cases e3 : o = 43
        · subst e3
          by_cases he : j + s < b.length
          · rw [stepO_added a b _ _ he] at h
            exact ih r (s + 1) i j q h1 (by omega) h
          · simp [stepO, he] at h
        · simp [stepO, e1, e2, e3] at h

theorem norm_count (l : List UInt8) (r s : Nat) : (norm l r s).count 32 = l.count 32 := by
  have h1 : ∀ r s, (List.replicate r (45 : UInt8) ++ List.replicate s 43).count 32 = 0 := by
    intro r s
    rw [List.count_append, List.count_replicate, List.count_replicate]; simp
  induction l generalizing r s with
  | nil => simp only [norm, h1]; rfl
  | cons o l ih =>
    by_cases e1 : o = 32
    · subst e1
      rw [norm, if_pos rfl, List.count_append, h1, List.count_cons_self, List.count_cons_self, ih]; omega
    · rw [norm, if_neg e1, List.count_cons_of_ne (by simpa using e1)]
      split
      · exact ih _ _
      · exact ih _ _

/-- No added op stands right ahead of a removed one. -/
def NoAR (l : List UInt8) : Prop := ∀ t : Nat, l[t]? = some 43 → l[t + 1]? ≠ some 45

theorem norm_noAR (l : List UInt8) (r s : Nat) : NoAR (norm l r s) := by
  have run : ∀ (r s : Nat) (tail : List UInt8), NoAR tail → (tail = [] ∨ ∃ u, tail = 32 :: u) → NoAR (List.replicate r 45 ++ List.replicate s 43 ++ tail) := by
    intro r s tail ht hh t h1 h2
    rw [List.append_assoc] at h1 h2
    by_cases c1 : t < r
    · rw [List.getElem?_append_left (by simpa using c1), List.getElem?_replicate, if_pos c1] at h1
      cases h1
    · rw [List.getElem?_append_right (by simp; omega)] at h1 h2
      simp only [List.length_replicate] at h1 h2
      rw [show t + 1 - r = (t - r) + 1 by omega] at h2
      generalize t - r = u at *
      by_cases c2 : u + 1 < s
      · rw [List.getElem?_append_left (by simpa using c2), List.getElem?_replicate, if_pos c2] at h2
        cases h2
      · by_cases c3 : u + 1 = s
        · rw [List.getElem?_append_right (by simp; omega)] at h2
          simp only [List.length_replicate, c3, Nat.sub_self] at h2
          rcases hh with rfl | ⟨v, rfl⟩
          · simp at h2
          · simp at h2
        · rw [List.getElem?_append_right (by simp; omega)] at h1 h2
          simp only [List.length_replicate] at h1 h2
          rw [show u + 1 - s = (u - s) + 1 by omega] at h2
          exact ht _ h1 h2
  induction l generalizing r s with
  | nil =>
    have := run r s [] (fun t h => by simp at h) (.inl rfl)
    simpa [norm] using this
  | cons o l ih =>
    unfold norm
    split
    · refine run r s _ ?_ (.inr ⟨_, rfl⟩)
      intro t h1 h2
      cases t with
      | zero => simp at h1
      | succ t =>
        simp only [List.getElem?_cons_succ] at h1 h2
        exact ih 0 0 t h1 h2
    · split
      · exact ih _ _
      · exact ih _ _

/-- The table looks at what it has read alone. -/
theorem L_congr (a b a' b' : List α) (n m : Nat) (h : ∀ i j, i < n → j < m → eqAt a b i j = eqAt a' b' i j) : ∀ i j, i ≤ n → j ≤ m → L a b i j = L a' b' i j := by
  intro i
  induction i with
  | zero => intro j _ _; rfl
  | succ i ih =>
    intro j hi hj
    induction j with
    | zero => simp [L_zero']
    | succ j ihj =>
      rw [L_succ, L_succ, h i j (by omega) (by omega), ih j (by omega) (by omega), ih (j + 1) (by omega) (by omega), ihj (by omega)]

theorem eqAt_append (a b x y : List α) (i j : Nat) (hi : i < a.length) (hj : j < b.length) : eqAt (a ++ x) (b ++ y) i j = eqAt a b i j := by
  unfold eqAt
  rw [List.getElem?_append_left hi, List.getElem?_append_left hj]

/-- The whole table. -/
def lcs (a b : List α) : Nat := L a b a.length b.length

theorem lcs_snoc (a b : List α) (x : α) : lcs (a ++ [x]) (b ++ [x]) = lcs a b + 1 := by
  unfold lcs
  rw [List.length_append, List.length_append]
  simp only [List.length_cons, List.length_nil, Nat.zero_add]
  have he : eqAt (a ++ [x]) (b ++ [x]) a.length b.length = true := by
    rw [eqAt_iff (by simp) (by simp)]
    simp
  rw [L_succ, if_pos he, L_congr (a ++ [x]) (b ++ [x]) a b a.length b.length (fun i j hi hj => eqAt_append a b _ _ i j hi hj) _ _ (Nat.le_refl _) (Nat.le_refl _)]

theorem lcs_suffix (a b s : List α) : lcs (a ++ s) (b ++ s) = lcs a b + s.length := by
  induction s generalizing a b with
  | nil => simp
  | cons x s ih =>
    have e : ∀ c : List α, c ++ x :: s = (c ++ [x]) ++ s := by intro c; simp
    rw [e a, e b, ih, lcs_snoc, List.length_cons]; omega

theorem L_cons (a b : List α) (x : α) : ∀ i j, L (x :: a) (x :: b) (i + 1) (j + 1) = L a b i j + 1 := by
  have h00 : eqAt (x :: a) (x :: b) 0 0 = true := by rw [eqAt_zero]; simp
  intro i
  induction i with
  | zero =>
    intro j
    induction j with
    | zero => rw [L_succ, if_pos h00]; rfl
    | succ j ih =>
      rw [L_succ]
      rw [L_zero] at ih ⊢
      split
      · rfl
      · rw [ih]; simp only [L_zero]; omega
  | succ i ih =>
    intro j
    induction j with
    | zero =>
      rw [L_succ, L_zero', L_zero', ih 0, L_zero', L_zero']
      split <;> omega
    | succ j ihj =>
      rw [L_succ, eqAt_succ, L_succ a b, ih j, ih (j + 1), ihj]
      split <;> omega

theorem lcs_prefix (p a b : List α) : lcs (p ++ a) (p ++ b) = p.length + lcs a b := by
  induction p with
  | nil => simp
  | cons x p ih =>
    have : lcs (x :: (p ++ a)) (x :: (p ++ b)) = lcs (p ++ a) (p ++ b) + 1 := L_cons _ _ _ _ _
    rw [List.cons_append, List.cons_append, this, ih, List.length_cons]; omega

theorem pre_take (a b : List α) : a.take (pre a b) = b.take (pre a b) := by
  have hs := pre_spec a b
  have hl := pre_le a b
  apply List.ext_getElem (by simp; omega)
  intro i h1 h2
  simp only [List.length_take] at h1
  have := hs.1 i (by omega)
  rw [eqAt_iff (by omega) (by omega)] at this
  simpa using of_decide_eq_true this

theorem suf_drop (a b : List α) (p : Nat) : a.drop (a.length - suf a b p) = b.drop (b.length - suf a b p) := by
  have hl := suf_le a b p
  have hs := pre_spec (a.drop p).reverse (b.drop p).reverse
  apply List.ext_getElem (by simp; omega)
  intro i h1 h2
  simp only [List.length_drop] at h1 h2
  have h := hs.1 (suf a b p - 1 - i) (by show _ < suf a b p; omega)
  rw [eqAt_rev] at h
  have h3 := (of_decide_eq_true h).2.2
  rw [eqAt_iff (by omega) (by omega)] at h3
  have h4 := of_decide_eq_true h3
  simp only [List.getElem_drop]
  have e1 : a.length - 1 - (suf a b p - 1 - i) = a.length - suf a b p + i := by omega
  have e2 : b.length - 1 - (suf a b p - 1 - i) = b.length - suf a b p + i := by omega
  simp only [e1, e2] at h4
  exact h4

/-- What lies between the common ends. -/
def mid {β : Type} (a : List β) (p s : Nat) : List β := (a.take (a.length - s)).drop p

theorem mid_split {β : Type} (a : List β) (p s : Nat) (h : p + s ≤ a.length) : a = a.take p ++ (mid a p s ++ a.drop (a.length - s)) := by
  unfold mid
  have e1 : (a.take (a.length - s)).drop p ++ a.drop (a.length - s) = a.drop p := by
    have := List.take_append_drop (a.length - s) a
    have h2 : a.drop p = (a.take (a.length - s) ++ a.drop (a.length - s)).drop p := by rw [this]
    rw [h2, List.drop_append_of_le_length (by simp; omega)]
  rw [e1, List.take_append_drop]

theorem mid_length {β : Type} (a : List β) (p s : Nat) : (mid a p s).length = a.length - s - p := by simp [mid]

theorem trim (a b : List α) : lcs a b = pre a b + lcs (mid a (pre a b) (suf a b (pre a b))) (mid b (pre a b) (suf a b (pre a b))) + suf a b (pre a b) := by
  have h1 := pre_le a b
  have h2 := suf_le a b (pre a b)
  have ea := mid_split a (pre a b) (suf a b (pre a b)) (by omega)
  have eb := mid_split b (pre a b) (suf a b (pre a b)) (by omega)
  rw [← pre_take, ← suf_drop] at eb
  have : lcs a b = lcs (a.take (pre a b) ++ (mid a (pre a b) (suf a b (pre a b)) ++ a.drop (a.length - suf a b (pre a b)))) (a.take (pre a b) ++ (mid b (pre a b) (suf a b (pre a b)) ++ a.drop (a.length - suf a b (pre a b)))) := by
    rw [← ea]; rw [← eb]
  rw [this, lcs_prefix, lcs_suffix, List.length_take, List.length_drop]
  omega

theorem D_trim (a b : List α) : D (mid a (pre a b) (suf a b (pre a b))) (mid b (pre a b) (suf a b (pre a b))) = D a b := by
  have h1 := pre_le a b
  have h2 := suf_le a b (pre a b)
  have h3 := trim a b
  have h4 := D_eq a b
  have h5 := D_eq (mid a (pre a b) (suf a b (pre a b))) (mid b (pre a b) (suf a b (pre a b)))
  have l1 := mid_length a (pre a b) (suf a b (pre a b))
  have l2 := mid_length b (pre a b) (suf a b (pre a b))
  unfold lcs at h3
  omega

end
end Go.Proofs.Qxb6603052a.My
