/-
  PLAIN MATHEMATICS, NO GO: the table of longest common subsequences, Myers's furthest points, and what the one says of the other.
-/
namespace Go.Proofs.Qxb6603052a.My
section
variable {α : Type} [DecidableEq α]

/-- Are the elements at i of a and at j of b there and alike? -/
def eqAt (a b : List α) (i j : Nat) : Bool :=
  match a[i]?, b[j]? with
  | some x, some y => decide (x = y)
  | _, _ => false

theorem eqAt_lt {a b : List α} {i j : Nat} (h : eqAt a b i j = true) : i < a.length ∧ j < b.length := by
  unfold eqAt at h
  by_cases hi : i < a.length
  · by_cases hj : j < b.length
    · exact ⟨hi, hj⟩
    · rw [List.getElem?_eq_none (l := b) (by omega)] at h
      split at h <;> simp_all
  · rw [List.getElem?_eq_none (l := a) (by omega)] at h
    split at h <;> simp_all

theorem eqAt_iff {a b : List α} {i j : Nat} (hi : i < a.length) (hj : j < b.length) : eqAt a b i j = decide (a[i] = b[j]) := by
  unfold eqAt
  rw [List.getElem?_eq_getElem hi, List.getElem?_eq_getElem hj]

def Lrow (eq : Nat → Bool) (prev : Nat → Nat) : Nat → Nat
  | 0 => 0
  | j + 1 => if eq j = true then prev j + 1 else max (prev (j + 1)) (Lrow eq prev j)

/-- The longest common subsequence of the first i of a and the first j of b. -/
def L (a b : List α) : Nat → Nat → Nat
  | 0 => fun _ => 0
  | i + 1 => Lrow (eqAt a b i) (L a b i)

theorem L_zero (a b : List α) (j : Nat) : L a b 0 j = 0 := rfl
theorem L_zero' (a b : List α) (i : Nat) : L a b i 0 = 0 := by cases i <;> rfl
theorem L_succ (a b : List α) (i j : Nat) : L a b (i + 1) (j + 1) = if eqAt a b i j = true then L a b i j + 1 else max (L a b i (j + 1)) (L a b (i + 1) j) := rfl

theorem L_steps (a b : List α) : ∀ i, (∀ j, L a b i j ≤ L a b i (j + 1) ∧ L a b i (j + 1) ≤ L a b i j + 1) ∧ (∀ j, L a b i j ≤ L a b (i + 1) j ∧ L a b (i + 1) j ≤ L a b i j + 1) := by
  have hQ : ∀ i, (∀ j, L a b i j ≤ L a b i (j + 1) ∧ L a b i (j + 1) ≤ L a b i j + 1) → ∀ j, L a b i j ≤ L a b (i + 1) j ∧ L a b (i + 1) j ≤ L a b i j + 1 := by
    intro i hP j
    induction j with
    | zero => simp [L_zero']
    | succ j ih =>
      have h1 := hP j
      rw [L_succ]
      split
      · omega
      · omega
  intro i
  induction i with
  | zero => exact ⟨fun j => by simp [L_zero], hQ 0 (fun j => by simp [L_zero])⟩
  | succ i ih =>
    have hP : ∀ j, L a b (i + 1) j ≤ L a b (i + 1) (j + 1) ∧ L a b (i + 1) (j + 1) ≤ L a b (i + 1) j + 1 := by
      intro j
      have h1 := ih.1 j
      have h2 := ih.2 j
      rw [L_succ]
      split
      · omega
      · omega
    exact ⟨hP, hQ _ hP⟩

theorem L_le_right (a b : List α) (i j : Nat) : L a b i j ≤ L a b i (j + 1) := ((L_steps a b i).1 j).1
theorem L_le_down (a b : List α) (i j : Nat) : L a b i j ≤ L a b (i + 1) j := ((L_steps a b i).2 j).1

theorem L_le_i (a b : List α) (i j : Nat) : L a b i j ≤ i := by
  induction i with
  | zero => simp [L_zero]
  | succ i ih => have := ((L_steps a b i).2 j).2; omega

theorem L_le_j (a b : List α) (i j : Nat) : L a b i j ≤ j := by
  induction j with
  | zero => simp [L_zero']
  | succ j ih => have := ((L_steps a b i).1 j).2; omega

theorem L_beyond_i (a b : List α) (i j : Nat) (h : a.length ≤ i) : L a b (i + 1) j = L a b i j := by
  induction j with
  | zero => simp [L_zero']
  | succ j ih =>
    have hn : ¬ eqAt a b i j = true := fun e => by have := (eqAt_lt e).1; omega
    have := L_le_right a b i j
    rw [L_succ, if_neg hn, ih]
    omega

theorem L_beyond_j (a b : List α) (i j : Nat) (h : b.length ≤ j) : L a b i (j + 1) = L a b i j := by
  induction i with
  | zero => simp [L_zero]
  | succ i ih =>
    have hn : ¬ eqAt a b i j = true := fun e => by have := (eqAt_lt e).2; omega
    have := L_le_down a b i j
    rw [L_succ, if_neg hn, ih]
    omega

/-- The whole table's corner bounds every entry. -/
theorem L_corner (a b : List α) (i j : Nat) : L a b (a.length + i) (b.length + j) = L a b a.length b.length := by
  have h1 : ∀ j', L a b (a.length + i) j' = L a b a.length j' := by
    intro j'
    induction i with
    | zero => rfl
    | succ i ih => rw [← Nat.add_assoc, L_beyond_i _ _ _ _ (by omega), ih]
  rw [h1]
  induction j with
  | zero => rfl
  | succ j ih => rw [← Nat.add_assoc, L_beyond_j _ _ _ _ (by omega), ih]

/-- Alike at (x, y), both numbers not negative. -/
def same (a b : List α) (x y : Int) : Bool := decide (0 ≤ x) && decide (0 ≤ y) && eqAt a b x.toNat y.toNat

theorem same_iff {a b : List α} {x y : Int} : same a b x y = true ↔ 0 ≤ x ∧ 0 ≤ y ∧ eqAt a b x.toNat y.toNat = true := by
  unfold same; simp [and_assoc]

theorem same_lt {a b : List α} {x y : Int} (h : same a b x y = true) : 0 ≤ x ∧ 0 ≤ y ∧ x < a.length ∧ y < b.length := by
  obtain ⟨h0, h1, h2⟩ := same_iff.1 h
  have := eqAt_lt h2
  omega

def snake (a b : List α) (k : Int) : Nat → Int → Int
  | 0, x => x
  | f + 1, x => if same a b x (x - k) = true then snake a b k f (x + 1) else x

theorem snake_ge (a b : List α) (k : Int) (f : Nat) (x : Int) : x ≤ snake a b k f x := by
  induction f generalizing x with
  | zero => exact Int.le_refl _
  | succ f ih =>
    unfold snake
    split
    · have := ih (x + 1); omega
    · exact Int.le_refl _

theorem snake_same (a b : List α) (k : Int) (f : Nat) (x : Int) : ∀ i, x ≤ i → i < snake a b k f x → same a b i (i - k) = true := by
  induction f generalizing x with
  | zero => intro i h1 h2; simp only [snake] at h2; omega
  | succ f ih =>
    intro i h1 h2
    unfold snake at h2
    split at h2
    · rename_i hs
      by_cases e : i = x
      · rw [e]; exact hs
      · exact ih (x + 1) i (by omega) h2
    · omega

theorem snake_stop (a b : List α) (k : Int) (f : Nat) (x : Int) (hf : (a.length : Int) ≤ x + f) : ¬ same a b (snake a b k f x) (snake a b k f x - k) = true := by
  induction f generalizing x with
  | zero => intro h; have := same_lt h; simp only [snake] at this; omega
  | succ f ih =>
    unfold snake
    split
    · exact ih (x + 1) (by omega)
    · assumption

theorem snake_unique (a b : List α) (k : Int) (f : Nat) (s x : Int) (hsx : s ≤ x) (hf : (a.length : Int) ≤ s + f) (hs : ∀ i, s ≤ i → i < x → same a b i (i - k) = true) (hx : ¬ same a b x (x - k) = true) : snake a b k f s = x := by
  have h1 := snake_ge a b k f s
  have h2 := snake_stop a b k f s hf
  have h3 := snake_same a b k f s
  by_cases c : snake a b k f s < x
  · exact absurd (hs _ h1 c) h2
  · by_cases c2 : x < snake a b k f s
    · exact absurd (h3 x hsx c2) hx
    · omega

def sn (a b : List α) (k x : Int) : Int := snake a b k a.length x

theorem sn_ge (a b : List α) (k x : Int) : x ≤ sn a b k x := snake_ge ..
theorem sn_same (a b : List α) (k x : Int) : ∀ i, x ≤ i → i < sn a b k x → same a b i (i - k) = true := snake_same _ _ _ _ _
theorem sn_stop (a b : List α) (k x : Int) (h : 0 ≤ x) : ¬ same a b (sn a b k x) (sn a b k x - k) = true := snake_stop _ _ _ _ _ (by omega)
theorem sn_unique (a b : List α) (k s x : Int) (h0 : 0 ≤ s) (hsx : s ≤ x) (hs : ∀ i, s ≤ i → i < x → same a b i (i - k) = true) (hx : ¬ same a b x (x - k) = true) : sn a b k s = x :=
  snake_unique _ _ _ _ _ _ hsx (by omega) hs hx
theorem sn_le (a b : List α) (k x : Int) : (sn a b k x = x) ∨ (sn a b k x ≤ a.length ∧ sn a b k x - k ≤ b.length) := by
  have h1 := sn_ge a b k x
  by_cases e : sn a b k x = x
  · exact .inl e
  · have := same_lt (sn_same a b k x (sn a b k x - 1) (by omega) (by omega))
    right; omega

/-- Where round d + 1 comes onto diagonal k, f being round d's points. -/
def start (f : Int → Int) (d : Nat) (k : Int) : Int := if k = -((d : Int) + 1) ∨ (k ≠ (d : Int) + 1 ∧ f (k - 1) < f (k + 1)) then f (k + 1) else f (k - 1) + 1

/-- The furthest x of d edits on diagonal k. -/
def F (a b : List α) : Nat → Int → Int
  | 0 => fun _ => sn a b 0 0
  | d + 1 => fun k => sn a b k (start (F a b d) d k)

theorem F_zero (a b : List α) (k : Int) : F a b 0 k = sn a b 0 0 := rfl
theorem F_succ (a b : List α) (d : Nat) (k : Int) : F a b (d + 1) k = sn a b k (start (F a b d) d k) := rfl

/-- Diagonal k can be met in round d. -/
def Vd (d : Nat) (k : Int) : Prop := -(d : Int) ≤ k ∧ k ≤ d ∧ (k + d) % 2 = 0

theorem start_cases (f : Int → Int) (d : Nat) (k : Int) (h : Vd (d + 1) k) :
    (Vd d (k + 1) ∧ start f d k = f (k + 1)) ∨ (Vd d (k - 1) ∧ start f d k = f (k - 1) + 1) := by
  unfold Vd at *
  unfold start
  split
  · rename_i c
    left
    refine ⟨?_, rfl⟩
    rcases c with c | ⟨c, _⟩ <;> omega
  · right
    refine ⟨?_, rfl⟩
    omega

theorem start_ge_left (f : Int → Int) (d : Nat) (k : Int) (h : Vd d (k - 1)) : f (k - 1) + 1 ≤ start f d k := by
  unfold Vd at h
  unfold start
  split
  · rename_i c
    rcases c with c | ⟨c, c2⟩ <;> omega
  · exact Int.le_refl _

theorem start_ge_right (f : Int → Int) (d : Nat) (k : Int) (h : Vd d (k + 1)) : f (k + 1) ≤ start f d k := by
  unfold Vd at h
  unfold start
  split
  · exact Int.le_refl _
  · rename_i c
    omega

theorem F_pos (a b : List α) (d : Nat) : ∀ k, Vd d k → 0 ≤ F a b d k ∧ k ≤ F a b d k := by
  induction d with
  | zero =>
    intro k h
    unfold Vd at h
    have := sn_ge a b 0 0
    rw [F_zero]; omega
  | succ d ih =>
    intro k h
    rw [F_succ]
    have := sn_ge a b k (start (F a b d) d k)
    rcases start_cases (F a b d) d k h with ⟨hv, e⟩ | ⟨hv, e⟩
    · have := ih _ hv; omega
    · have := ih _ hv; omega

theorem start_pos (a b : List α) (d : Nat) (k : Int) (h : Vd (d + 1) k) : 0 ≤ start (F a b d) d k ∧ k ≤ start (F a b d) d k := by
  rcases start_cases (F a b d) d k h with ⟨hv, e⟩ | ⟨hv, e⟩
  · have := F_pos a b d _ hv; omega
  · have := F_pos a b d _ hv; omega

theorem F_le (a b : List α) (d : Nat) : ∀ k, Vd d k → F a b d k ≤ a.length + d ∧ F a b d k - k ≤ b.length + d := by
  induction d with
  | zero =>
    intro k h
    unfold Vd at h
    rw [F_zero]
    rcases sn_le a b 0 0 with e | e <;> omega
  | succ d ih =>
    intro k h
    rw [F_succ]
    rcases sn_le a b k (start (F a b d) d k) with e2 | e2
    · rcases start_cases (F a b d) d k h with ⟨hv, e⟩ | ⟨hv, e⟩
      · have := ih _ hv; omega
      · have := ih _ hv; omega
    · omega

theorem F_stop (a b : List α) (d : Nat) (k : Int) (h : Vd d k) : ¬ same a b (F a b d k) (F a b d k - k) = true := by
  cases d with
  | zero =>
    unfold Vd at h
    rw [F_zero, show k = 0 by omega]
    exact sn_stop a b 0 0 (by omega)
  | succ d =>
    rw [F_succ]
    exact sn_stop a b k _ (start_pos a b d k h).1

/-- A way along a snake keeps the balance. -/
theorem L_snake (a b : List α) (k s x : Int) (h0 : 0 ≤ s) (hk : k ≤ s) (hsx : s ≤ x) (hs : ∀ i, s ≤ i → i < x → same a b i (i - k) = true) :
    x - s ≤ L a b x.toNat (x - k).toNat - L a b s.toNat (s - k).toNat ∧ L a b s.toNat (s - k).toNat ≤ L a b x.toNat (x - k).toNat := by
  obtain ⟨n, rfl⟩ : ∃ n : Nat, x = s + n := ⟨(x - s).toNat, by omega⟩
  clear hsx
  induction n with
  | zero => simp
  | succ n ih =>
    have ih' := ih (fun i h1 h2 => hs i h1 (by omega))
    have hsm := (same_iff.1 (hs (s + n) (by omega) (by omega))).2.2
    have e1 : (s + ((n + 1 : Nat) : Int)).toNat = (s + n).toNat + 1 := by omega
    have e2 : (s + ((n + 1 : Nat) : Int) - k).toNat = (s + n - k).toNat + 1 := by omega
    rw [e1, e2, L_succ, if_pos hsm]
    omega

/-- (S) What d edits reach is no further than the table allows. -/
theorem F_S (a b : List α) (d : Nat) : ∀ k, Vd d k → F a b d k + (F a b d k - k) ≤ d + 2 * L a b (F a b d k).toNat (F a b d k - k).toNat := by
  induction d with
  | zero =>
    intro k h
    unfold Vd at h
    obtain rfl : k = 0 := by omega
    rw [F_zero]
    have h1 := L_snake a b 0 0 (sn a b 0 0) (by omega) (by omega) (sn_ge ..) (sn_same _ _ _ _)
    simp [L_zero] at h1
    simp
    omega
  | succ d ih =>
    intro k h
    rw [F_succ]
    have hp := start_pos a b d k h
    have h1 := L_snake a b k _ _ hp.1 hp.2 (sn_ge a b k (start (F a b d) d k)) (sn_same a b k (start (F a b d) d k))
    have h2 : start (F a b d) d k + (start (F a b d) d k - k) ≤ (d + 1 : Nat) + 2 * L a b (start (F a b d) d k).toNat (start (F a b d) d k - k).toNat := by
      rcases start_cases (F a b d) d k h with ⟨hv, e⟩ | ⟨hv, e⟩
      · have hi := ih _ hv
        have hp2 := F_pos a b d _ hv
        rw [e]
        have e3 : (F a b d (k + 1) - k).toNat = (F a b d (k + 1) - (k + 1)).toNat + 1 := by omega
        rw [e3]
        have := L_le_right a b (F a b d (k + 1)).toNat (F a b d (k + 1) - (k + 1)).toNat
        omega
      · have hi := ih _ hv
        have hp2 := F_pos a b d _ hv
        rw [e]
        have e3 : (F a b d (k - 1) + 1).toNat = (F a b d (k - 1)).toNat + 1 := by omega
        have e4 : (F a b d (k - 1) + 1 - k).toNat = (F a b d (k - 1) - (k - 1)).toNat := by omega
        rw [e3, e4]
        have := L_le_down a b (F a b d (k - 1)).toNat (F a b d (k - 1) - (k - 1)).toNat
        omega
    omega

theorem Vd_of (a b : List α) (d x y : Nat) (hp : (x + y + d) % 2 = 0) (hl : x + y ≤ d + 2 * L a b x y) : Vd d ((x : Int) - y) := by
  have l1 := L_le_i a b x y
  have l2 := L_le_j a b x y
  unfold Vd
  omega

theorem F_diag (a b : List α) (d x y : Nat) (hv : Vd d ((x : Int) - y)) (he : eqAt a b x y = true) (h : (x : Int) ≤ F a b d ((x : Int) - y)) : ((x + 1 : Nat) : Int) ≤ F a b d ((x : Int) - y) := by
  by_cases c : F a b d ((x : Int) - y) = x
  · exfalso
    apply F_stop a b d _ hv
    rw [c, same_iff]
    have e1 : ((x : Int) - ((x : Int) - y)).toNat = y := by omega
    rw [e1]
    exact ⟨by omega, by omega, by simpa using he⟩
  · omega

/-- (C) What the table allows, d edits reach. -/
theorem F_C (a b : List α) (d : Nat) : ∀ s x y : Nat, x + y = s → (x + y + d) % 2 = 0 → x + y ≤ d + 2 * L a b x y → (x : Int) ≤ F a b d ((x : Int) - y) := by
  induction d with
  | zero =>
    intro s
    induction s using Nat.strongRecOn with
    | ind s ihs =>
      intro x y hs hp hl
      have l1 := L_le_i a b x y
      have l2 := L_le_j a b x y
      obtain rfl : y = x := by omega
      match y with
      | 0 =>
        have := sn_ge a b 0 0
        rw [F_zero]; omega
      | x' + 1 =>
        have hl1 := L_le_i a b x' (x' + 1)
        have hl2 := L_le_j a b (x' + 1) x'
        rw [L_succ] at hl
        split at hl
        · rename_i he
          have h1 := ihs (x' + x') (by omega) x' x' rfl (by omega) (by omega)
          have h2 := F_diag a b 0 x' x' (Vd_of a b 0 x' x' (by omega) (by omega)) he h1
          have e : ((x' + 1 : Nat) : Int) - ((x' + 1 : Nat) : Int) = (x' : Int) - x' := by omega
          rw [e]; exact h2
        · omega
  | succ d ih =>
    intro s
    induction s using Nat.strongRecOn with
    | ind s ihs =>
      intro x y hs hp hl
      have hvd := Vd_of a b (d + 1) x y hp hl
      have left : ∀ x', x = x' + 1 → x' + y ≤ d + 2 * L a b x' y → (x : Int) ≤ F a b (d + 1) ((x : Int) - y) := by
        intro x' hx hl'
        have h1 := ih _ x' y rfl (by omega) hl'
        have hv := Vd_of a b d x' y (by omega) hl'
        have e : (x : Int) - y - 1 = (x' : Int) - y := by omega
        rw [← e] at h1 hv
        have h2 := start_ge_left (F a b d) d ((x : Int) - y) hv
        rw [F_succ]
        have h3 := sn_ge a b ((x : Int) - y) (start (F a b d) d ((x : Int) - y))
        omega
      have right : ∀ y', y = y' + 1 → x + y' ≤ d + 2 * L a b x y' → (x : Int) ≤ F a b (d + 1) ((x : Int) - y) := by
        intro y' hy hl'
        have h1 := ih _ x y' rfl (by omega) hl'
        have hv := Vd_of a b d x y' (by omega) hl'
        have e : (x : Int) - y + 1 = (x : Int) - y' := by omega
        rw [← e] at h1 hv
        have h2 := start_ge_right (F a b d) d ((x : Int) - y) hv
        rw [F_succ]
        have h3 := sn_ge a b ((x : Int) - y) (start (F a b d) d ((x : Int) - y))
        omega
      match x, y with
      | 0, y =>
        have := F_pos a b (d + 1) _ hvd
        omega
      | x' + 1, 0 =>
        rw [L_zero'] at hl
        exact left x' rfl (by rw [L_zero']; omega)
      | x' + 1, y' + 1 =>
        by_cases he : eqAt a b x' y' = true
        · rw [L_succ, if_pos he] at hl
          have h1 := ihs (x' + y') (by omega) x' y' rfl (by omega) (by omega)
          have h2 := F_diag a b (d + 1) x' y' (Vd_of a b (d + 1) x' y' (by omega) (by omega)) he h1
          have e : ((x' + 1 : Nat) : Int) - ((y' + 1 : Nat) : Int) = (x' : Int) - y' := by omega
          rw [e]; exact h2
        · rw [L_succ, if_neg he] at hl
          by_cases c : L a b (x' + 1) y' ≤ L a b x' (y' + 1)
          · exact left x' rfl (by omega)
          · exact right y' rfl (by omega)

/-- The least number of edits. -/
def D (a b : List α) : Nat := a.length + b.length - 2 * L a b a.length b.length

theorem D_eq (a b : List α) : D a b + 2 * L a b a.length b.length = a.length + b.length := by
  have l1 := L_le_i a b a.length b.length
  have l2 := L_le_j a b a.length b.length
  unfold D
  omega

/-- Both ends passed: no sooner than round D, and in round D at the one end point alone. -/
theorem F_end (a b : List α) (d : Nat) (k : Int) (h : Vd d k) (h1 : (a.length : Int) ≤ F a b d k) (h2 : (b.length : Int) ≤ F a b d k - k) :
    D a b ≤ d ∧ (d = D a b → k = (a.length : Int) - b.length ∧ F a b d k = a.length) := by
  have hS := F_S a b d k h
  have hD := D_eq a b
  have e1 : (F a b d k).toNat = a.length + ((F a b d k).toNat - a.length) := by omega
  have e2 : (F a b d k - k).toNat = b.length + ((F a b d k - k).toNat - b.length) := by omega
  rw [e1, e2, L_corner] at hS
  constructor
  · omega
  · intro e; omega

theorem Vd_D (a b : List α) : Vd (D a b) ((a.length : Int) - b.length) := by
  have hD := D_eq a b
  exact Vd_of a b _ _ _ (by omega) (by omega)

theorem F_D (a b : List α) : F a b (D a b) ((a.length : Int) - b.length) = a.length := by
  have hD := D_eq a b
  have h1 := F_C a b (D a b) _ a.length b.length rfl (by omega) (by omega)
  exact ((F_end a b (D a b) _ (Vd_D a b) h1 (by omega)).2 rfl).2

/-- The diagonal that round d + 1 comes from. -/
def fromK (f : Int → Int) (d : Nat) (k : Int) : Int := if k = -((d : Int) + 1) ∨ (k ≠ (d : Int) + 1 ∧ f (k - 1) < f (k + 1)) then k + 1 else k - 1

theorem fromK_cases (f : Int → Int) (d : Nat) (k : Int) (h : Vd (d + 1) k) :
    (Vd d (k + 1) ∧ fromK f d k = k + 1 ∧ start f d k = f (k + 1) ∧ (k = -((d : Int) + 1) ∨ (k ≠ (d : Int) + 1 ∧ f (k - 1) < f (k + 1)))) ∨
    (Vd d (k - 1) ∧ fromK f d k = k - 1 ∧ start f d k = f (k - 1) + 1 ∧ ¬ (k = -((d : Int) + 1) ∨ (k ≠ (d : Int) + 1 ∧ f (k - 1) < f (k + 1)))) := by
  unfold Vd at *
  unfold start fromK
  by_cases c : k = -((d : Int) + 1) ∨ (k ≠ (d : Int) + 1 ∧ f (k - 1) < f (k + 1))
  · left
    rw [if_pos c, if_pos c]
    exact ⟨by omega, rfl, rfl, c⟩
  · right
    rw [if_neg c, if_neg c]
    exact ⟨by omega, rfl, rfl, c⟩

/-- The way back from the furthest point of round d on diagonal k: kept 32, removed 45, added 43; the last first. -/
def back (a b : List α) : Nat → Int → List UInt8
  | 0 => fun k => List.replicate (F a b 0 k).toNat 32
  | d + 1 => fun k => List.replicate (F a b (d + 1) k - start (F a b d) d k).toNat 32 ++ (if fromK (F a b d) d k = k + 1 then 43 else 45) :: back a b d (fromK (F a b d) d k)

theorem back_zero (a b : List α) (k : Int) : back a b 0 k = List.replicate (F a b 0 k).toNat 32 := rfl
theorem back_succ (a b : List α) (d : Nat) (k : Int) : back a b (d + 1) k = List.replicate (F a b (d + 1) k - start (F a b d) d k).toNat 32 ++ (if fromK (F a b d) d k = k + 1 then 43 else 45) :: back a b d (fromK (F a b d) d k) := rfl

/-- What the greedy search hands back. -/
def shortestOps (a b : List α) : List UInt8 := if D a b ≤ 1000 then (back a b (D a b) ((a.length : Int) - b.length)).reverse else List.replicate a.length 45 ++ List.replicate b.length 43

end
end Go.Proofs.Qxb6603052a.My
