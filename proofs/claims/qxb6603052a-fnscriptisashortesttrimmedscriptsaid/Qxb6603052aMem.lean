/-
  SMALL LAWS ON MEMORY for seat b6603052a: a block that is known whole, as a list of cells.
-/
import Derived.WalkKit
import Derived.WalkSpells
import Derived.WalkLawsBesides
import Derived.Deep.OwnRows
import Derived.Deep.LoopGhost
import Derived.Deep.QuietTactic
import Derived.BigQuiet
import Derived.Deep.RegionLaw
import Derived.Deep.DeepCutAuto
import Derived.Deep.DeepMust
import Derived.Deep.DeepFit
namespace Go.Proofs.Qxb6603052a
open Go.RowKit

theorem hid {p : Prop} (h : p) : Hid p := h

/-- Block g holds just these cells, none of them shut to writing. -/
def Blk (w : World) (g : Nat) (t : TypeId) (l : List Value) : Prop := w.heap[g]? = some (.cells l.toArray t (0, 0))

theorem Blk.lt {w : World} {g : Nat} {t : TypeId} {l : List Value} (h : Blk w g t l) : g < w.heap.size := (Array.getElem?_eq_some_iff.1 h).1

theorem Blk.cell {w : World} {g : Nat} {t : TypeId} {l : List Value} (h : Blk w g t l) (i : Nat) (hi : i < l.length) : w.cell? ⟨g, i, none⟩ = some l[i] := by
  unfold Blk at h
  simp [World.cell?, h, hi]

theorem Blk.frozen {w : World} {g : Nat} {t : TypeId} {l : List Value} (h : Blk w g t l) (i : Nat) : w.frozen? ⟨g, i, none⟩ = false := by
  unfold Blk at h
  simp [World.frozen?, h]

theorem Blk.set {w : World} {g : Nat} {t : TypeId} {l : List Value} (h : Blk w g t l) (i : Nat) (v : Value) : Blk (w.setCell ⟨g, i, none⟩ v) g t (l.set i v) := by
  unfold Blk at *
  rw [heap_setCell_same w g i l.toArray t v h]
  simp

theorem Blk.setOther {w : World} {g : Nat} {t : TypeId} {l : List Value} (h : Blk w g t l) (a : Addr) (v : Value) (hne : g ≠ a.block) : Blk (w.setCell a v) g t l := by
  unfold Blk at *
  rw [Below.heap_setCell _ _ _ _ hne]
  exact h

theorem Blk.alloc {w : World} {g : Nat} {t : TypeId} {l : List Value} (h : Blk w g t l) (o : Obj) : Blk (w.alloc o) g t l := by
  have := h.lt
  unfold Blk at *
  rw [Below.heap_alloc _ _ _ this]
  exact h

theorem Blk.new (w : World) (t : TypeId) (l : List Value) : Blk (w.alloc (.cells l.toArray t)) w.heap.size t l := heap_alloc_new w _

theorem Blk.made (w : World) (t : TypeId) (z : Value) (n : Nat) : Blk (w.alloc (.cells (madeCells #[z] n) t)) w.heap.size t (List.replicate n z) := by
  have e : madeCells #[z] n = (List.replicate n z).toArray := by
    apply Array.ext'
    rw [toList_madeCells_one]
  rw [e]
  exact Blk.new w t _

theorem Blk.drew {w : World} {g : Nat} {t : TypeId} {l : List Value} (h : Blk w g t l) : Blk w.drew g t l := h

theorem Blk.below {B : Nat} {w w' : World} {g : Nat} {t : TypeId} {l : List Value} (h : Blk w g t l) (hb : Below B w w') (hg : g < B) : Blk w' g t l := by
  unfold Blk at *
  rw [hb.block g hg]
  exact h

theorem Blk.setRow {w : World} {g : Nat} {t : TypeId} {l : List Value} (h : Blk w g t l) (l' : List Value) : Blk (w.setRow g l'.toArray) g t l' := setRow_heap w g _ _ t _ h

theorem Blk.setRowOther {w : World} {g k : Nat} {t : TypeId} {l : List Value} (h : Blk w g t l) (cs : Array Value) (hne : g ≠ k) : Blk (w.setRow k cs) g t l := by
  unfold Blk at *
  rw [setRow_other _ _ _ _ hne]
  exact h

theorem Below.setRow {B g : Nat} {w0 w : World} (hb : Below B w0 w) (hBg : B ≤ g) (cs : Array Value) : Below B w0 (w.setRow g cs) :=
  hb.trans ⟨rfl, rfl, rfl, by simp [World.setRow], fun k hk => setRow_other w g k cs (by omega)⟩

/-- A row of the call's own, off a block that is known whole. -/
theorem Blk.owns {w : World} {g : Nat} {t : TypeId} {l : List Value} (h : Blk w g t l) {base : Nat} (hb : base ≤ g) (hl : l.length ≤ maxLen) : w.ownsRow base t 1 (.slice (some ⟨g, 0, none⟩) l.length l.length) l.length l :=
  ⟨by simp, .inr ⟨g, l.length, l.toArray, rfl, hb, h, Nat.le_refl _, hl, by simp, by simp⟩⟩

/-- What is owned above B's size stays while all below stays. -/
theorem ownsRow_below {B : Nat} {w w' : World} {base : Nat} {e : TypeId} {size : Nat} {v : Value} {n : Nat} {xs : List Value} (h : w.ownsRow base e size v n xs) (hb : Below B w w') (hB : w.heap.size ≤ B) : w'.ownsRow base e size v n xs := by
  obtain ⟨h1, h2⟩ := h
  refine ⟨h1, ?_⟩
  rcases h2 with h2 | ⟨g, cap, cur, hv, hg, hh, r⟩
  · exact .inl h2
  · exact .inr ⟨g, cap, cur, hv, hg, by rw [hb.block g (by have := (Array.getElem?_eq_some_iff.1 hh).1; omega)]; exact hh, r⟩

/-- Two rows of unlike element types lie apart. -/
theorem own_ne {w : World} {B B' : Nat} {e e' : TypeId} {s s' : Nat} {v v' : Value} {n n' : Nat} {xs xs' : List Value} (h : w.ownsRow B e s v n xs) (h' : w.ownsRow B' e' s' v' n' xs') (hne : e ≠ e') : v.ownBlock = none ∨ v.ownBlock ≠ v'.ownBlock := by
  rcases h.2 with ⟨rfl, _⟩ | ⟨g, cap, cur, rfl, _, hh, _⟩
  · left; rfl
  · right
    rcases h'.2 with ⟨rfl, _⟩ | ⟨g', cap', cur', rfl, _, hh', _⟩
    · simp [Value.ownBlock]
    · simp only [Value.ownBlock, ne_eq, Option.some.injEq]
      rintro rfl
      rw [hh] at hh'
      simp at hh'
      exact hne hh'.2

theorem own_ne_blk {w : World} {B g : Nat} {e e' : TypeId} {s : Nat} {v : Value} {n : Nat} {xs l : List Value} (h : w.ownsRow B e s v n xs) (h' : Blk w g e' l) (hne : e ≠ e') : v.ownBlock ≠ some g := by
  rcases h.2 with ⟨rfl, _⟩ | ⟨g', cap, cur, rfl, _, hh, _⟩
  · simp [Value.ownBlock]
  · simp only [Value.ownBlock, ne_eq, Option.some.injEq]
    rintro rfl
    unfold Blk at h'
    rw [hh] at h'
    simp at h'
    exact hne h'.2

theorem Blk.grown {w w' : World} {g : Nat} {t : TypeId} {l : List Value} {row : Option Nat} (h : Blk w g t l) (hg : w.grownBy w' row) (hne : row ≠ some g) : Blk w' g t l := by
  have := h.lt
  unfold Blk at *
  rw [hg.block g this (fun e => hne e.symm)]
  exact h

theorem ownsRow_setCell {w : World} {base : Nat} {e : TypeId} {size : Nat} {v : Value} {n : Nat} {xs : List Value} (h : w.ownsRow base e size v n xs) {a : Addr} (ha : v.ownBlock ≠ some a.block) (u : Value) : (w.setCell a u).ownsRow base e size v n xs := by
  obtain ⟨h1, h2⟩ := h
  refine ⟨h1, ?_⟩
  rcases h2 with h2 | ⟨g, cap, cur, rfl, hg, hh, r⟩
  · exact .inl h2
  · refine .inr ⟨g, cap, cur, rfl, hg, ?_, r⟩
    rw [Below.heap_setCell _ _ _ _ (fun e => ha (by simp [Value.ownBlock, e]))]; exact hh

theorem ownsRow_base {w : World} {base base' : Nat} {e : TypeId} {size : Nat} {v : Value} {n : Nat} {xs : List Value} (h : w.ownsRow base e size v n xs) (hb : base' ≤ base) : w.ownsRow base' e size v n xs := by
  obtain ⟨h1, h2⟩ := h
  refine ⟨h1, ?_⟩
  rcases h2 with h2 | ⟨g, cap, cur, hv, hg, hh, r⟩
  · exact .inl h2
  · exact .inr ⟨g, cap, cur, hv, by omega, hh, r⟩

/-- A slice of cells as it lies. -/
def VAt (w : World) (a : Addr) (xs : List Value) : Prop := ∀ (j : Nat) (u : Value), xs[j]? = some u → w.cell? (a.add j) = some u

/-- A slice of one-cell elements that is read from. -/
def Src (w : World) (v : Value) (xs : List Value) : Prop := (v = .slice none 0 0 ∧ xs = []) ∨ ∃ ad c, v = .slice (some ad) xs.length c ∧ VAt w ad xs

theorem owns_Src {w : World} {base : Nat} {e : TypeId} {v : Value} {n : Nat} {xs : List Value} (h : w.ownsRow base e 1 v n xs) : Src w v xs := by
  have hl := h.1
  rcases h.2 with ⟨rfl, hn⟩ | ⟨g, cap, cur, rfl, hg, hh, hnc, hcm, hcs, htake⟩
  · left; exact ⟨rfl, List.eq_nil_of_length_eq_zero (by omega)⟩
  · right
    refine ⟨⟨g, 0, none⟩, cap, by rw [hl, Nat.mul_one], fun j u hu => ?_⟩
    exact h.cells (g := g) rfl j u hu

theorem VAt.below {w w' : World} {a : Addr} {xs : List Value} (h : VAt w a xs) (hb : Below w.heap.size w w') : VAt w' a xs := by
  intro j u hu
  have hc := h j u hu
  rw [hb.cell (World.block_lt_of_cell? _ _ hc)]
  exact hc

theorem Src.below {w w' : World} {v : Value} {xs : List Value} (h : Src w v xs) (hb : Below w.heap.size w w') : Src w' v xs := by
  rcases h with h | ⟨ad, c, e, h⟩
  · exact .inl h
  · exact .inr ⟨ad, c, e, h.below hb⟩

/-- append, elements of one cell, onto a row of the call's own, from whatever source. -/
theorem wpList_append1 {P : Program} {w : World} {ops : Array Oper} {rest : List Oper} {o : Oper} {a : Act} {Q : Exit → Act → World → Prop} (hgd : o.guard = none) (s x : Operand) (t : TypeId)
    (ho : o.op = .call { callee := .builtin .append, args := #[s, x], argTypes := #[t, t] })
    (base : Nat) (e : TypeId) (z : Value) (bytes : Nat) (ht : P.underlying t = some (.slice e)) (hinfo : (P.info? e).map (fun i => (i.zero, i.size, i.bytes)) = some (some z, 1, bytes)) (hz1 : z.cells = #[z])
    (v : Value) (n : Nat) (xs : List Value) (hs : a.eval s = v) (hown : w.ownsRow base e 1 v n xs) (u : Value) (news : List Value) (hx : a.eval x = u) (hsrc : Src w u news) (h1 : ∀ u ∈ news, u.oneCell' = true)
    (h63 : n + news.length ≤ maxLen) (hbytes : (n + news.length) * bytes ≤ 140737488355328) (hbase : base ≤ w.heap.size)
    (h : ∀ v' w', w'.ownsRow base e 1 v' (n + news.length) (xs ++ news) → w.grownBy w' v.ownBlock → wpList P ops Q rest (a.put o.dst v') w') : wpList P ops Q (o :: rest) a w := by
  obtain ⟨i, hi, hzz⟩ := Option.map_eq_some_iff.1 hinfo
  simp only [Prod.mk.injEq] at hzz
  obtain ⟨hz, hsz, hb⟩ := hzz
  rcases hsrc with ⟨rfl, rfl⟩ | ⟨ad, c, rfl, hv⟩
  · refine wpList_plain hgd fun K hK => ?_
    have hrun := run_append_owned_none (P := P) w base t o.type e i 1 ht hi v n xs hown
    unfold Oper.wp
    simp [execOp, ho, resolve, invoke, builtin, hs, hx, hrun, Result.andThen]
    refine hK _ _ (h v w (by simpa using hown) ⟨rfl, rfl, rfl, Nat.le_refl _, fun _ _ _ => rfl⟩)
  · exact wpList_append_own w hgd s x t ho base e i z 1 bytes ht hi hz hsz hb (by rw [hz1]; rfl) (by omega) v n xs hs hown ad news.length c news hx (by simp) hv h1 h63 hbytes hbase (fun v' w' h2 h3 _ => h v' w' h2 h3)

/-- A call of a Go function by its contract, as one step of a region that draws. -/
theorem step_call {P : Program} {ops : Array Oper} {o : Oper} {a : Act} {w : World} {K : Act → World → Prop} {Q : Exit → Act → World → Prop} {E : Prop} (hg : o.guard = none) (f : FuncId) (xs : List Operand) (ts : Array TypeId)
    (hop : o.op = .call { callee := .value (.func f), args := xs.toArray, argTypes := ts }) (vs : List Value) (hev : xs.map a.eval = vs) (hcf : (callFunc f vs.toArray).run P w = .ok (.enter f vs.toArray) w) (R : Ending → World → Prop) (hc : Calls P f vs.toArray w R)
    (h : ∀ e w', R e w' → ∃ v, e = .returned v ∧ K (a.put o.dst v) w') :
    if Region.wanted o (yielded ops a.tmps) = true then Oper.wp P o a w K Q else E := by
  have hw : Region.wanted o (yielded ops a.tmps) = true := by simp [Region.wanted, hg]
  rw [if_pos hw]
  unfold Oper.wp
  subst hev
  have hx : (execOp a.eval o).run P w = .ok (.enter f (xs.map a.eval).toArray) w := by
    have e : a.eval (.func f) = .func (.func f) #[] #[] := rfl
    simp [execOp, hop, resolve, invoke, e, Deferred.ofValue, hcf]
  rw [hx]
  show Calls _ _ _ _ _
  refine hc.mono ?_
  intro e w' hr
  obtain ⟨v, rfl, hk⟩ := h e w' hr
  exact hk

/-- append, elements of one cell, onto a row of the call's own, as one step of a region that draws. -/
theorem step_append1 {P : Program} {w : World} {ops : Array Oper} {o : Oper} {a : Act} {K : Act → World → Prop} {Q : Exit → Act → World → Prop} {E : Prop} (hgd : o.guard = none) (s x : Operand) (t : TypeId)
    (ho : o.op = .call { callee := .builtin .append, args := #[s, x], argTypes := #[t, t] })
    (base : Nat) (e : TypeId) (z : Value) (bytes : Nat) (ht : P.underlying t = some (.slice e)) (hinfo : (P.info? e).map (fun i => (i.zero, i.size, i.bytes)) = some (some z, 1, bytes)) (hz1 : z.cells = #[z])
    (v : Value) (n : Nat) (xs : List Value) (hs : a.eval s = v) (hown : w.ownsRow base e 1 v n xs) (u : Value) (news : List Value) (hx : a.eval x = u) (hsrc : Src w u news) (h1 : ∀ u ∈ news, u.oneCell' = true)
    (h63 : n + news.length ≤ maxLen) (hbytes : (n + news.length) * bytes ≤ 140737488355328) (hbase : base ≤ w.heap.size)
    (h : ∀ v' w', w'.ownsRow base e 1 v' (n + news.length) (xs ++ news) → w.grownBy w' v.ownBlock → K (a.put o.dst v') w') :
    if Region.wanted o (yielded ops a.tmps) = true then Oper.wp P o a w K Q else E := by
  have hw : Region.wanted o (yielded ops a.tmps) = true := by simp [Region.wanted, hgd]
  rw [if_pos hw]
  obtain ⟨i, hi, hzz⟩ := Option.map_eq_some_iff.1 hinfo
  simp only [Prod.mk.injEq] at hzz
  obtain ⟨hz, hsz, hb⟩ := hzz
  rcases hsrc with ⟨rfl, rfl⟩ | ⟨ad, c, rfl, hv⟩
  · have hrun := run_append_owned_none (P := P) w base t o.type e i 1 ht hi v n xs hown
    unfold Oper.wp
    simp [execOp, ho, resolve, invoke, builtin, hs, hx, hrun, Result.andThen]
    exact h v w (by simpa using hown) ⟨rfl, rfl, rfl, Nat.le_refl _, fun _ _ _ => rfl⟩
  · exact wp_append_own w s x t ho base e i z 1 bytes ht hi hz hsz hb (by rw [hz1]; rfl) (by omega) v n xs hs hown ad news.length c news hx (by simp) hv h1 h63 hbytes hbase (fun v' w' h2 h3 _ => h v' w' h2 h3)

/-- A slice of strings as it lies. -/
def SAt (w : World) (a : Option Addr) (ss : List ByteArray) : Prop :=
  ∀ i : Nat, ∀ h : i < ss.length, ∃ b off : Nat, a = some ⟨b, off, none⟩ ∧ w.cell? ⟨b, off + i, none⟩ = some (.string ss[i])

theorem SAt.below {w w' : World} {a : Option Addr} {ss : List ByteArray} (h : SAt w a ss) (hb : Below w.heap.size w w') : SAt w' a ss := by
  intro i hi
  obtain ⟨b, off, e, hc⟩ := h i hi
  exact ⟨b, off, e, by rw [hb.cell (p := ⟨b, off + i, none⟩) (World.block_lt_of_cell? _ _ hc)]; exact hc⟩

theorem SAt.drew {w : World} {a : Option Addr} {ss : List ByteArray} (h : SAt w a ss) : SAt w.drew a ss := h

/-- What a row of strings of the call's own is, for whoever reads it. -/
theorem owns_SAt {w : World} {base : Nat} {e : TypeId} {v : Value} {ss : List ByteArray} (h : w.ownsRow base e 1 v ss.length (ss.map Value.string)) :
    ∃ a cap, v = .slice a ss.length cap ∧ cap ≤ maxLen ∧ SAt w a ss := by
  rcases h.2 with ⟨rfl, hn⟩ | ⟨g, cap, cur, rfl, hg, hh, hnc, hcm, hcs, htake⟩
  · exact ⟨none, 0, by rw [hn], Nat.zero_le _, fun i hi => by omega⟩
  · refine ⟨_, cap, rfl, hcm, fun i hi => ⟨g, 0, rfl, ?_⟩⟩
    have hi2 : (cur.toList.take (ss.length * 1))[i]? = some (.string ss[i]) := by rw [htake]; simp [hi]
    rw [List.getElem?_take] at hi2
    split at hi2
    · rw [Nat.zero_add, cell_of_row w g i cur e (0, 0) hh]; simpa using hi2
    · cases hi2

/-- A part of a slice of strings. -/
theorem SAt.part {w : World} {b off : Nat} {ss : List ByteArray} (h : SAt w (some ⟨b, off, none⟩) ss) (lo hi : Nat) : SAt w (some ⟨b, off + lo, none⟩) ((ss.take hi).drop lo) := by
  intro i hl
  simp only [List.length_drop, List.length_take] at hl
  obtain ⟨b', off', e, hc⟩ := h (lo + i) (by omega)
  simp only [Option.some.injEq, Addr.mk.injEq, and_true] at e
  obtain ⟨rfl, rfl⟩ := e
  refine ⟨b, off + lo, rfl, ?_⟩
  rw [Nat.add_assoc, hc]
  simp

theorem bytes_eq (x y : ByteArray) : (x.toList == y.toList) = decide (x = y) := by
  rw [ByteArray.toList_eq, ByteArray.toList_eq]
  by_cases h : x = y
  · subst h; simp
  · rw [decide_eq_false h]
    apply beq_eq_false_iff_ne.2
    intro e
    exact h (by obtain ⟨⟨x⟩⟩ := x; obtain ⟨⟨y⟩⟩ := y; simp at e; rw [e])

end Go.Proofs.Qxb6603052a
