/-
  THE EDITS OF 'script', PLAIN: the common ends around a shortest script of the middle.
-/
import Derived.Test.Qxb6603052aLay
namespace Go.Proofs.Qxb6603052a
open My (play stepO shortestOps scriptOps pre suf norm)

theorem lay_mid (aa bb a' b' : List ByteArray) (p q : Nat) (ha : ∀ i, i < a'.length → ln a' i = ln aa (p + i)) (hb : ∀ i, i < b'.length → ln b' i = ln bb (q + i)) (l : List UInt8) (i j : Nat) (r : Nat × Nat)
    (h : play a' b' l (i, j) = some r) : lay a' b' l i j = lay aa bb l (p + i) (q + j) := by
  induction l generalizing i j with
  | nil => rfl
  | cons o l ih =>
    rw [play] at h
    cases hs : stepO a' b' o (i, j) with
    | none => rw [hs] at h; cases h
    | some t =>
      rw [hs] at h
      have h2 : play a' b' l t = some r := h
      rw [lay, lay]
      rcases My.stepO_inv _ _ _ _ _ _ hs with ⟨rfl, h1, rfl⟩ | ⟨rfl, h1, rfl⟩ | ⟨rfl, h1, rfl⟩
      · have h3 := My.eqAt_lt h1
        simp only [n3243, n3245, if_false]
        rw [ha i h3.1, ih _ _ h2]; rfl
      · simp only [n4543, if_true, if_false, Nat.add_zero]
        rw [ha i h1, ih _ _ h2]; rfl
      · simp only [n4345, if_true, if_false, Nat.add_zero]
        rw [hb j h1, ih _ _ h2]; rfl

theorem ln_mid (aa : List ByteArray) (p s i : Nat) (h : i < ((aa.take (aa.length - s)).drop p).length) : ln ((aa.take (aa.length - s)).drop p) i = ln aa (p + i) := by
  have h' := h
  simp only [List.length_drop, List.length_take] at h'
  rw [ln_get h, ln_get (show p + i < aa.length by omega)]
  simp

theorem script_ops (aa bb : List ByteArray) : ∀ o ∈ scriptOps aa bb, o = 32 ∨ o = 45 ∨ o = 43 := by
  have key : ∀ (l : List UInt8) (i j : Nat) (r : Nat × Nat), play aa bb l (i, j) = some r → ∀ o ∈ l, o = 32 ∨ o = 45 ∨ o = 43 := by
    intro l
    induction l with
    | nil => intro i j r _ o ho; simp at ho
    | cons x l ih =>
      intro i j r h o ho
      rw [play] at h
      cases hs : stepO aa bb x (i, j) with
      | none => rw [hs] at h; cases h
      | some t =>
        rw [hs] at h
        have h2 : play aa bb l t = some r := h
        rcases List.mem_cons.1 ho with rfl | ho
        · rcases My.stepO_inv _ _ _ _ _ _ hs with ⟨h1, _⟩ | ⟨h1, _⟩ | ⟨h1, _⟩
          · exact .inl h1
          · exact .inr (.inl h1)
          · exact .inr (.inr h1)
        · exact ih t.1 t.2 r h2 o ho
  exact key _ 0 0 _ (My.script_play aa bb)

end Go.Proofs.Qxb6603052a
