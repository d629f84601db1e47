/-
  EDITS: the ops of a script with their lines; and a row of edits in memory.
-/
import Derived.Test.Qxb6603052aScr
import Derived.Test.Qxb6603052aMem
namespace Go.Proofs.Qxb6603052a
open Go.RowKit
open My (play stepO norm)

abbrev Ed := UInt8 × ByteArray

def cntA (l : List UInt8) : Nat := l.countP (fun o => o != 43)
def cntB (l : List UInt8) : Nat := l.countP (fun o => o != 45)
@[simp] theorem cntA_nil : cntA [] = 0 := rfl
@[simp] theorem cntB_nil : cntB [] = 0 := rfl
theorem cntA_cons (o : UInt8) (l : List UInt8) : cntA (o :: l) = cntA l + if o = 43 then 0 else 1 := by
  unfold cntA; rw [List.countP_cons]; by_cases h : o = 43 <;> simp [h]
theorem cntB_cons (o : UInt8) (l : List UInt8) : cntB (o :: l) = cntB l + if o = 45 then 0 else 1 := by
  unfold cntB; rw [List.countP_cons]; by_cases h : o = 45 <;> simp [h]
theorem cntA_append (l l' : List UInt8) : cntA (l ++ l') = cntA l + cntA l' := List.countP_append
theorem cntB_append (l l' : List UInt8) : cntB (l ++ l') = cntB l + cntB l' := List.countP_append
theorem cntA_reverse (l : List UInt8) : cntA l.reverse = cntA l := List.countP_reverse
theorem cntB_reverse (l : List UInt8) : cntB l.reverse = cntB l := List.countP_reverse
theorem cntA_rep (n : Nat) (o : UInt8) : cntA (List.replicate n o) = if o = 43 then 0 else n := by
  unfold cntA; rw [List.countP_replicate]; by_cases h : o = 43 <;> simp [h]
theorem cntB_rep (n : Nat) (o : UInt8) : cntB (List.replicate n o) = if o = 45 then 0 else n := by
  unfold cntB; rw [List.countP_replicate]; by_cases h : o = 45 <;> simp [h]

theorem play_cnt (aa bb : List ByteArray) (l : List UInt8) (i j : Nat) (q : Nat × Nat) (h : play aa bb l (i, j) = some q) : q = (i + cntA l, j + cntB l) := by
  induction l generalizing i j with
  | nil => simp only [play, Option.some.injEq] at h; subst h; rfl
  | cons o l ih =>
    rw [play] at h
    cases hs : stepO aa bb o (i, j) with
    | none => rw [hs] at h; cases h
    | some r =>
      rw [hs] at h
      have h2 : play aa bb l r = some q := h
      rw [cntA_cons, cntB_cons]
      rcases My.stepO_inv _ _ _ _ _ _ hs with ⟨rfl, _, rfl⟩ | ⟨rfl, _, rfl⟩ | ⟨rfl, _, rfl⟩
      · rw [ih _ _ h2]; simp; omega
      · rw [ih _ _ h2]; simp; omega
      · rw [ih _ _ h2]; simp; omega

def ln (aa : List ByteArray) (i : Nat) : ByteArray := aa.getD i ⟨#[]⟩
theorem ln_get {aa : List ByteArray} {i : Nat} (h : i < aa.length) : ln aa i = aa[i] := by simp [ln, List.getD, h]

/-- The edits of a script from (i, j) on. -/
def lay (aa bb : List ByteArray) : List UInt8 → Nat → Nat → List Ed
  | [], _, _ => []
  | o :: l, i, j => (o, if o = 43 then ln bb j else ln aa i) :: lay aa bb l (i + if o = 43 then 0 else 1) (j + if o = 45 then 0 else 1)

theorem lay_length (aa bb : List ByteArray) (l : List UInt8) (i j : Nat) : (lay aa bb l i j).length = l.length := by
  induction l generalizing i j with
  | nil => rfl
  | cons o l ih => rw [lay, List.length_cons, List.length_cons, ih]

theorem lay_append (aa bb : List ByteArray) (l l' : List UInt8) (i j : Nat) : lay aa bb (l ++ l') i j = lay aa bb l i j ++ lay aa bb l' (i + cntA l) (j + cntB l) := by
  induction l generalizing i j with
  | nil => rfl
  | cons o l ih =>
    rw [List.cons_append, lay, lay, cntA_cons, cntB_cons, ih, List.cons_append]
    congr 3 <;> omega

/-- The same backwards, from (x, y). -/
def layB (aa bb : List ByteArray) : List UInt8 → Nat → Nat → List Ed
  | [], _, _ => []
  | o :: l, x, y => (o, if o = 43 then ln bb (y - 1) else ln aa (x - 1)) :: layB aa bb l (x - if o = 43 then 0 else 1) (y - if o = 45 then 0 else 1)

theorem layB_length (aa bb : List ByteArray) (l : List UInt8) (i j : Nat) : (layB aa bb l i j).length = l.length := by
  induction l generalizing i j with
  | nil => rfl
  | cons o l ih => rw [layB, List.length_cons, List.length_cons, ih]

theorem layB_append (aa bb : List ByteArray) (l l' : List UInt8) (i j : Nat) : layB aa bb (l ++ l') i j = layB aa bb l i j ++ layB aa bb l' (i - cntA l) (j - cntB l) := by
  induction l generalizing i j with
  | nil => rfl
  | cons o l ih =>
    rw [List.cons_append, layB, layB, cntA_cons, cntB_cons, ih, List.cons_append]
    congr 3 <;> omega

theorem layB_rev (aa bb : List ByteArray) (l : List UInt8) (x y : Nat) (hx : cntA l ≤ x) (hy : cntB l ≤ y) : (layB aa bb l x y).reverse = lay aa bb l.reverse (x - cntA l) (y - cntB l) := by
  induction l generalizing x y with
  | nil => rfl
  | cons o l ih =>
    rw [cntA_cons] at hx ⊢
    rw [cntB_cons] at hy ⊢
    rw [layB, List.reverse_cons, List.reverse_cons, lay_append, cntA_reverse, cntB_reverse, ih _ _ (by omega) (by omega)]
    congr 1
    · congr 1 <;> omega
    · simp only [lay]
      congr 2
      by_cases h1 : o = 43
      · have h2 : ¬ o = 45 := by rw [h1]; decide
        simp only [if_pos h1, if_neg h2] at hy ⊢
        congr 1; omega
      · simp only [if_neg h1] at hx ⊢
        congr 1; omega

theorem lay_get (aa bb : List ByteArray) (l : List UInt8) (i j t : Nat) : (lay aa bb l i j)[t]? = l[t]?.map fun o => (o, if o = 43 then ln bb (j + cntB (l.take t)) else ln aa (i + cntA (l.take t))) := by
  induction l generalizing i j t with
  | nil => simp [lay]
  | cons o l ih =>
    rw [lay]
    cases t with
    | zero => simp
    | succ t =>
      rw [List.getElem?_cons_succ, List.getElem?_cons_succ, ih, List.take_succ_cons, cntA_cons, cntB_cons]
      congr 1
      funext q
      congr 2
      · congr 1; omega
      · congr 1; omega

/-- The order within a run of changes, on edits. -/
def normE : List Ed → List Ed → List Ed → List Ed
  | [], R, A => R ++ A
  | e :: l, R, A => if e.1 = 32 then R ++ A ++ e :: normE l [] [] else if e.1 = 45 then normE l (R ++ [e]) A else normE l R (A ++ [e])

theorem n4345 : ((43 : UInt8) = 45) = False := by decide
theorem n4543 : ((45 : UInt8) = 43) = False := by decide
theorem n3243 : ((32 : UInt8) = 43) = False := by decide
theorem n3245 : ((32 : UInt8) = 45) = False := by decide
theorem n4532 : ((45 : UInt8) = 32) = False := by decide
theorem n4332 : ((43 : UInt8) = 32) = False := by decide

theorem lay_rep45 (aa bb : List ByteArray) (r i j : Nat) : lay aa bb (List.replicate r 45) i j = (List.range r).map fun u => ((45 : UInt8), ln aa (i + u)) := by
  apply List.ext_getElem?
  intro t
  rw [lay_get]
  by_cases h : t < r
  · rw [List.getElem?_replicate, if_pos h, List.getElem?_map, List.getElem?_range h, List.take_replicate, cntA_rep]
    simp only [Option.map_some]
    rw [if_neg (by decide), if_neg (by decide), Nat.min_eq_left (by omega)]
  · rw [List.getElem?_eq_none (by simp; omega), List.getElem?_eq_none (by simp; omega)]; rfl

theorem lay_rep43 (aa bb : List ByteArray) (r i j : Nat) : lay aa bb (List.replicate r 43) i j = (List.range r).map fun u => ((43 : UInt8), ln bb (j + u)) := by
  apply List.ext_getElem?
  intro t
  rw [lay_get]
  by_cases h : t < r
  · rw [List.getElem?_replicate, if_pos h, List.getElem?_map, List.getElem?_range h, List.take_replicate, cntB_rep]
    simp only [Option.map_some, n4345, if_true, if_false]
    rw [Nat.min_eq_left (by omega)]
  · rw [List.getElem?_eq_none (by simp; omega), List.getElem?_eq_none (by simp; omega)]; rfl

theorem normE_lay (aa bb : List ByteArray) (l : List UInt8) (hl : ∀ o ∈ l, o = 32 ∨ o = 45 ∨ o = 43) (i j r s : Nat) :
    normE (lay aa bb l (i + r) (j + s)) ((List.range r).map fun u => (45, ln aa (i + u))) ((List.range s).map fun u => (43, ln bb (j + u))) = lay aa bb (norm l r s) i j := by
  induction l generalizing i j r s with
  | nil => rw [lay, normE, norm, lay_append, lay_rep45, lay_rep43, cntB_rep, if_pos rfl]; rfl
  | cons o l ih =>
    have hl' : ∀ o ∈ l, o = 32 ∨ o = 45 ∨ o = 43 := fun o h => hl o (by simp [h])
    rw [lay, normE, norm]
    rcases hl o (by simp) with rfl | rfl | rfl
    · rw [if_pos rfl, if_pos rfl, lay_append, lay_append, lay_rep45, lay_rep43, cntA_append, cntB_append, cntA_rep, cntB_rep, cntA_rep, cntB_rep, lay]
      simp only [n3243, n3245, n4543, n4345, if_true, if_false, Nat.add_zero, Nat.zero_add]
      have := ih hl' (i + r + 1) (j + s + 1) 0 0
      simp only [List.range_zero, List.map_nil, Nat.add_zero] at this
      rw [this]
    · simp only [n4543, n4532, if_true, if_false]
      have := ih hl' i j (r + 1) s
      rw [← this, List.range_succ, List.map_append]
      rfl
    · simp only [n4345, n4332, if_true, if_false]
      have := ih hl' i j r (s + 1)
      rw [← this, List.range_succ, List.map_append]
      rfl

theorem normE_lay0 (aa bb : List ByteArray) (l : List UInt8) (hl : ∀ o ∈ l, o = 32 ∨ o = 45 ∨ o = 43) : normE (lay aa bb l 0 0) [] [] = lay aa bb (norm l 0 0) 0 0 := by
  have := normE_lay aa bb l hl 0 0 0 0
  simpa using this

end Go.Proofs.Qxb6603052a
