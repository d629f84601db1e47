/-
  COUNTS AND ENDS OF 'script' AND 'shortest', PLAIN.
-/
import Derived.Test.Qxb6603052aScl
import Derived.Test.Qxb6603052aW9
namespace Go.Proofs.Qxb6603052a
open My (play stepO shortestOps scriptOps pre suf norm D L)

def chg (l : List UInt8) : Nat := l.countP (fun o => o != 32)

theorem shortest_chg (aa bb : List ByteArray) (h : D aa bb ≤ 1000) : chg (shortestOps aa bb) = D aa bb := by
  have h1 := play_changes aa bb _ 0 0 _ (My.shortest_plays aa bb)
  have h2 := (My.shortest_play aa bb h).2
  have h3 := My.D_eq aa bb
  simp only at h1
  unfold chg
  omega

theorem script_chg (aa bb : List ByteArray) (h : D aa bb ≤ 1000) : chg (norm (scriptOps aa bb) 0 0) = D aa bb := by
  have h1 := play_changes aa bb _ 0 0 _ (My.norm_script_play aa bb)
  have h2 := My.script_count aa bb h
  rw [← My.norm_count (scriptOps aa bb) 0 0] at h2
  have h3 := My.D_eq aa bb
  simp only at h1
  unfold chg
  omega

theorem shortest_chg_big (aa bb : List ByteArray) (h : ¬ D aa bb ≤ 1000) : chg (shortestOps aa bb) = aa.length + bb.length := by
  unfold My.shortestOps chg
  rw [if_neg h, List.countP_append, List.countP_replicate, List.countP_replicate]
  simp

theorem script_chg_le (aa bb : List ByteArray) : chg (norm (scriptOps aa bb) 0 0) ≤ aa.length + bb.length := by
  have h1 := play_changes aa bb _ 0 0 _ (My.norm_script_play aa bb)
  simp only at h1
  unfold chg
  omega

/-- The plain law of FnScriptNeverLongerThanShortest. -/
theorem never_longer (aa bb : List ByteArray) : (chg (shortestOps aa bb) ≤ 1000 → chg (norm (scriptOps aa bb) 0 0) = chg (shortestOps aa bb)) ∧ chg (norm (scriptOps aa bb) 0 0) ≤ chg (shortestOps aa bb) := by
  by_cases h : D aa bb ≤ 1000
  · rw [shortest_chg aa bb h, script_chg aa bb h]
    exact ⟨fun _ => rfl, Nat.le_refl _⟩
  · have h3 := My.D_eq aa bb
    rw [shortest_chg_big aa bb h]
    exact ⟨fun hc => by omega, script_chg_le aa bb⟩

theorem norm_kept (n : Nat) (l : List UInt8) : norm (List.replicate n 32 ++ l) 0 0 = List.replicate n 32 ++ norm l 0 0 := by
  induction n with
  | zero => rfl
  | succ n ih =>
    rw [List.replicate_succ, List.cons_append, norm, if_pos rfl, ih]
    rfl

theorem norm_end (n : Nat) (l : List UInt8) (r s : Nat) : norm (l ++ List.replicate n 32) r s = norm l r s ++ List.replicate n 32 := by
  induction l generalizing r s with
  | nil =>
    cases n with
    | zero => simp
    | succ n =>
      have := norm_kept n []
      simp only [List.append_nil, norm, List.replicate_zero] at this
      rw [List.nil_append, List.replicate_succ]
      show (if (32 : UInt8) = 32 then List.replicate r 45 ++ List.replicate s 43 ++ 32 :: norm (List.replicate n 32) 0 0 else _) = _
      rw [if_pos rfl, this]; rfl
  | cons o l ih =>
    rw [List.cons_append, norm, norm]
    split
    · rw [ih]; simp
    · split
      · exact ih _ _
      · exact ih _ _

theorem script_ends (aa bb : List ByteArray) : ∃ l, norm (scriptOps aa bb) 0 0 = List.replicate (pre aa bb) 32 ++ l ++ List.replicate (suf aa bb (pre aa bb)) 32 := by
  unfold scriptOps
  rw [norm_end, norm_kept]
  exact ⟨_, rfl⟩

theorem script_ends_len (aa bb : List ByteArray) : pre aa bb + suf aa bb (pre aa bb) ≤ (norm (scriptOps aa bb) 0 0).length := by
  obtain ⟨l, h⟩ := script_ends aa bb
  rw [h]; simp

theorem script_first (aa bb : List ByteArray) (i : Nat) (h : i < pre aa bb) : (norm (scriptOps aa bb) 0 0)[i]? = some 32 := by
  obtain ⟨l, e⟩ := script_ends aa bb
  rw [e, List.append_assoc, List.getElem?_append_left (by simpa using h)]
  simp [h]

theorem script_last (aa bb : List ByteArray) (i : Nat) (h1 : (norm (scriptOps aa bb) 0 0).length - suf aa bb (pre aa bb) ≤ i) (h2 : i < (norm (scriptOps aa bb) 0 0).length) : (norm (scriptOps aa bb) 0 0)[i]? = some 32 := by
  obtain ⟨l, e⟩ := script_ends aa bb
  rw [e] at h1 h2 ⊢
  simp only [List.length_append, List.length_replicate] at h1 h2
  rw [List.getElem?_append_right (by simp; omega), List.getElem?_replicate, if_pos (by simp; omega)]

end Go.Proofs.Qxb6603052a
