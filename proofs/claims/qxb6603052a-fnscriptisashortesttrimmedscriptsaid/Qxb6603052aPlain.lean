/-
  PLAIN MATHEMATICS, NO GO: common ends, the script, the runs of changes put in order, the lines' numbers.
-/
import Derived.Test.Qxb6603052aMyers
namespace Go.Proofs.Qxb6603052a.My
section
variable {α : Type} [DecidableEq α]

/-- How many elements a and b have alike at their heads. -/
def pre : List α → List α → Nat
  | x :: xs, y :: ys => if x = y then pre xs ys + 1 else 0
  | _, _ => 0

theorem eqAt_zero (x y : α) (xs ys : List α) : eqAt (x :: xs) (y :: ys) 0 0 = decide (x = y) := rfl
theorem eqAt_succ (x y : α) (xs ys : List α) (i j : Nat) : eqAt (x :: xs) (y :: ys) (i + 1) (j + 1) = eqAt xs ys i j := rfl

theorem pre_spec : ∀ a b : List α, (∀ i, i < pre a b → eqAt a b i i = true) ∧ eqAt a b (pre a b) (pre a b) = false
  | [], b => ⟨fun i h => by simp [pre] at h, by simp [pre, eqAt]⟩
  | x :: xs, [] => ⟨fun i h => by simp [pre] at h, by simp [pre, eqAt]⟩
  | x :: xs, y :: ys => by
    unfold pre
    have ih := pre_spec xs ys
    split
    · rename_i h
      refine ⟨fun i hi => ?_, ?_⟩
      · cases i with
        | zero => rw [eqAt_zero]; exact decide_eq_true h
        | succ i => rw [eqAt_succ]; exact ih.1 i (by omega)
      · rw [eqAt_succ]; exact ih.2
    · rename_i h
      exact ⟨fun i hi => by omega, by rw [eqAt_zero]; exact decide_eq_false h⟩

theorem pre_unique (a b : List α) (p : Nat) (h1 : ∀ i, i < p → eqAt a b i i = true) (h2 : eqAt a b p p = false) : pre a b = p := by
  have hs := pre_spec a b
  by_cases c : pre a b < p
  · have := h1 _ c; rw [hs.2] at this; cases this
  · by_cases c2 : p < pre a b
    · have := hs.1 _ c2; rw [h2] at this; cases this
    · omega

theorem pre_le (a b : List α) : pre a b ≤ a.length ∧ pre a b ≤ b.length := by
  have hs := pre_spec a b
  by_cases c : pre a b = 0
  · omega
  · have := eqAt_lt (hs.1 (pre a b - 1) (by omega)); omega

/-- Alike at their ends, the first p set aside. -/
def suf (a b : List α) (p : Nat) : Nat := pre (a.drop p).reverse (b.drop p).reverse

theorem eqAt_rev (a b : List α) (p i : Nat) : eqAt (a.drop p).reverse (b.drop p).reverse i i = decide (i < a.length - p ∧ i < b.length - p ∧ eqAt a b (a.length - 1 - i) (b.length - 1 - i) = true) := by
  by_cases h : i < a.length - p ∧ i < b.length - p
  · rw [eqAt_iff (by simp; omega) (by simp; omega), eqAt_iff (by omega) (by omega)]
    simp only [List.getElem_reverse, List.length_drop, List.getElem_drop]
    have e1 : p + (a.length - p - 1 - i) = a.length - 1 - i := by omega
    have e2 : p + (b.length - p - 1 - i) = b.length - 1 - i := by omega
    simp only [e1, e2, decide_eq_true_eq]
    simp [h]
  · have : eqAt (a.drop p).reverse (b.drop p).reverse i i = false := by
      apply Bool.eq_false_iff.2
      intro e
      have := eqAt_lt e
      simp at this
      omega
    rw [this]
    symm
    apply decide_eq_false
    omega

theorem suf_unique (a b : List α) (p s : Nat) (h1 : ∀ i, i < s → i < a.length - p ∧ i < b.length - p ∧ eqAt a b (a.length - 1 - i) (b.length - 1 - i) = true)
    (h2 : ¬ (s < a.length - p ∧ s < b.length - p ∧ eqAt a b (a.length - 1 - s) (b.length - 1 - s) = true)) : suf a b p = s := by
  unfold suf
  apply pre_unique
  · intro i hi; rw [eqAt_rev]; exact decide_eq_true (h1 i hi)
  · rw [eqAt_rev]; exact decide_eq_false h2

theorem suf_le (a b : List α) (p : Nat) : suf a b p ≤ a.length - p ∧ suf a b p ≤ b.length - p := by
  have := pre_le (a.drop p).reverse (b.drop p).reverse
  simpa [suf] using this

/-- What 'script' hands back. -/
def scriptOps (a b : List α) : List UInt8 :=
  List.replicate (pre a b) 32 ++ shortestOps ((a.take (a.length - suf a b (pre a b))).drop (pre a b)) ((b.take (b.length - suf a b (pre a b))).drop (pre a b)) ++ List.replicate (suf a b (pre a b)) 32

/-- The changes of each run, the removed ones first: r removed and s added are still to be laid. -/
def norm : List UInt8 → Nat → Nat → List UInt8
  | [], r, s => List.replicate r 45 ++ List.replicate s 43
  | o :: os, r, s => if o = 32 then List.replicate r 45 ++ List.replicate s 43 ++ 32 :: norm os 0 0 else if o = 45 then norm os (r + 1) s else norm os r (s + 1)

/-- The ops with the numbers of the lines of a and b read before each. -/
def number : List UInt8 → Nat → Nat → List (UInt8 × Nat × Nat)
  | [], _, _ => []
  | o :: os, i, j => (o, i, j) :: number os (if o = 43 then i else i + 1) (if o = 45 then j else j + 1)

def linesOf (a b : List α) : List (UInt8 × Nat × Nat) := number (norm (scriptOps a b) 0 0) 0 0

theorem norm_run (run rest : List UInt8) (h : ∀ o ∈ run, o ≠ 32) (r s : Nat) : norm (run ++ rest) r s = norm rest (r + run.count 45) (s + (run.length - run.count 45)) := by
  induction run generalizing r s with
  | nil => simp
  | cons o run ih =>
    have ih' := ih (fun x hx => h x (by simp [hx]))
    have hc := List.count_le_length (a := (45 : UInt8)) (l := run)
    rw [List.cons_append, norm, if_neg (h o (by simp))]
    by_cases e : o = 45
    · subst e
      rw [if_pos rfl, ih', List.count_cons_self, List.length_cons]
      congr 1 <;> omega
    · rw [if_neg e, ih', List.count_cons_of_ne (by simpa using e), List.length_cons]
      congr 1 <;> omega

theorem norm_flush (rest : List UInt8) (h : rest = [] ∨ ∃ t, rest = 32 :: t) (r s : Nat) : norm rest r s = List.replicate r 45 ++ List.replicate s 43 ++ norm rest 0 0 := by
  rcases h with rfl | ⟨t, rfl⟩
  · simp [norm]
  · simp [norm]

/-- One run, put in order. -/
def laidRun (run : List UInt8) : List UInt8 := List.replicate (run.count 45) 45 ++ List.replicate (run.length - run.count 45) 43

theorem laidRun_length (run : List UInt8) : (laidRun run).length = run.length := by
  have hc := List.count_le_length (a := (45 : UInt8)) (l := run)
  simp [laidRun]; omega

theorem norm_laid (run rest : List UInt8) (h : ∀ o ∈ run, o ≠ 32) (hr : rest = [] ∨ ∃ t, rest = 32 :: t) : norm (run ++ rest) 0 0 = laidRun run ++ norm rest 0 0 := by
  rw [norm_run run rest h, norm_flush rest hr]
  simp [laidRun]

theorem norm_length (l : List UInt8) (r s : Nat) : (norm l r s).length = l.length + r + s := by
  induction l generalizing r s with
  | nil => simp [norm]
  | cons o l ih =>
    unfold norm
    split
    · simp [ih]; omega
    · split
      · rw [ih]; simp; omega
      · rw [ih]; simp; omega

theorem number_length (l : List UInt8) (i j : Nat) : (number l i j).length = l.length := by
  induction l generalizing i j with
  | nil => rfl
  | cons o l ih => simp [number, ih]

theorem pre_append (p a b : List α) : pre (p ++ a) (p ++ b) = p.length + pre a b := by
  induction p with
  | nil => simp
  | cons x p ih => simp [pre, ih]; omega

theorem suf_append (p a b : List α) (q : Nat) : suf (p ++ a) (p ++ b) (p.length + q) = suf a b q := by
  unfold suf
  rw [← List.drop_drop, ← List.drop_drop, List.drop_left, List.drop_left]

theorem scriptOps_append (p a b : List α) : scriptOps (p ++ a) (p ++ b) = List.replicate p.length 32 ++ scriptOps a b := by
  unfold scriptOps
  rw [pre_append, suf_append]
  have hs := suf_le a b (pre a b)
  have e : ∀ c : List α, suf a b (pre a b) ≤ c.length - pre a b → ((p ++ c).take ((p ++ c).length - suf a b (pre a b))).drop (p.length + pre a b) = (c.take (c.length - suf a b (pre a b))).drop (pre a b) := by
    intro c hc
    rw [List.length_append, show p.length + c.length - suf a b (pre a b) = p.length + (c.length - suf a b (pre a b)) by omega, List.take_append]
    rw [List.take_of_length_le (by omega), show p.length + (c.length - suf a b (pre a b)) - p.length = c.length - suf a b (pre a b) by omega]
    rw [← List.drop_drop, List.drop_append]
    simp
  rw [e a hs.1, e b hs.2, ← List.replicate_append_replicate]
  simp only [List.append_assoc]

theorem norm_kept (n : Nat) (os : List UInt8) : norm (List.replicate n 32 ++ os) 0 0 = List.replicate n 32 ++ norm os 0 0 := by
  induction n with
  | zero => simp
  | succ n ih => rw [List.replicate_succ, List.cons_append, norm, if_pos rfl, ih]; simp

theorem number_kept (n : Nat) (os : List UInt8) (i j : Nat) : number (List.replicate n 32 ++ os) i j = (List.range n).map (fun t => (32, i + t, j + t)) ++ number os (i + n) (j + n) := by
  induction n generalizing i j with
  | zero => simp
  | succ n ih =>
    rw [List.replicate_succ, List.cons_append, number, ih, List.range_succ_eq_map]
    simp only [if_neg (show ¬ (32 : UInt8) = 43 by decide), if_neg (show ¬ (32 : UInt8) = 45 by decide)]
    simp [Function.comp_def, Nat.add_comm, Nat.add_left_comm]

theorem number_shift (os : List UInt8) (i j n : Nat) : number os (i + n) (j + n) = (number os i j).map fun q => (q.1, q.2.1 + n, q.2.2 + n) := by
  induction os generalizing i j with
  | nil => rfl
  | cons o os ih =>
    simp only [number, List.map_cons]
    rw [← ih]
    congr 2
    · split <;> omega
    · split <;> omega

/-- THE FIRST LAW, PLAIN: a common head is kept and shifts the rest. -/
theorem linesOf_append (p a b : List α) : linesOf (p ++ a) (p ++ b) = (List.range p.length).map (fun t => (32, t, t)) ++ (linesOf a b).map fun q => (q.1, q.2.1 + p.length, q.2.2 + p.length) := by
  unfold linesOf
  rw [scriptOps_append, norm_kept, number_kept]
  simp only [Nat.zero_add]
  congr 1
  have := number_shift (norm (scriptOps a b) 0 0) 0 0 p.length
  simpa using this

end
end Go.Proofs.Qxb6603052a.My
