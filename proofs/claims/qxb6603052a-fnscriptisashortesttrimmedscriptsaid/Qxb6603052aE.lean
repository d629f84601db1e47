/-
  A ROW OF EDITS in memory, and append onto it.
-/
import Derived.Test.Qxb6603052aLay
import Derived.Test.Qxb6603052aW1
namespace Go.Proofs.Qxb6603052a
open Go.RowKit

def edCells (e : Ed) : List Value := [.int .u8 e.1.toNat, .string e.2]
def ERow (w : World) (B : Nat) (v : Value) (es : List Ed) : Prop := w.ownsRow B 40 2 v es.length (es.flatMap edCells)
def ESrc (w : World) (u : Value) (es : List Ed) : Prop := (u = .slice none 0 0 ∧ es = []) ∨ ∃ ad c, u = .slice (some ad) es.length c ∧ VAt w ad (es.flatMap edCells)

theorem Try.info40 : (Try.prog.info? 40).map (fun i => (i.zero, i.size, i.bytes)) = some (some (.agg #[.int .u8 0, .string ⟨#[]⟩]), 2, 24) := by kernel_rfl
theorem Try.underlying36' : Try.prog.underlying 36 = some (.slice 40) := by kernel_rfl

theorem ed_length (es : List Ed) : (es.flatMap edCells).length = es.length * 2 := by
  induction es with
  | nil => rfl
  | cons e es ih => rw [List.flatMap_cons, List.length_append, ih]; simp [edCells]; omega

theorem ed_one (es : List Ed) : ∀ u ∈ es.flatMap edCells, u.oneCell' = true := by
  intro u hu
  obtain ⟨e, _, h⟩ := List.mem_flatMap.1 hu
  simp [edCells] at h
  rcases h with rfl | rfl <;> rfl

theorem ed_get (es : List Ed) (t : Nat) (e : Ed) (h : es[t]? = some e) : (es.flatMap edCells)[t * 2]? = some (.int .u8 e.1.toNat) ∧ (es.flatMap edCells)[t * 2 + 1]? = some (.string e.2) := by
  induction es generalizing t with
  | nil => simp at h
  | cons x es ih =>
    rw [List.flatMap_cons]
    cases t with
    | zero => simp at h; subst h; simp [edCells]
    | succ t =>
      have e1 : (t + 1) * 2 = t * 2 + 2 := by omega
      have hx : (edCells x).length = 2 := rfl
      rw [e1, List.getElem?_append_right (by rw [hx]; omega), List.getElem?_append_right (by rw [hx]; omega), hx]
      have := ih t (by simpa using h)
      simpa using this

theorem ERow.nil (w : World) (B : Nat) : ERow w B (.slice none 0 0) [] := World.ownsRow_nil _ _ _ _

theorem ERow.src {w : World} {B : Nat} {v : Value} {es : List Ed} (h : ERow w B v es) : ESrc w v es := by
  rcases h.2 with ⟨rfl, hn⟩ | ⟨g, cap, cur, rfl, hg, hh, hnc, hcm, hcs, htake⟩
  · left; exact ⟨rfl, List.eq_nil_of_length_eq_zero hn⟩
  · right
    exact ⟨⟨g, 0, none⟩, cap, rfl, fun j u hu => World.ownsRow.cells h (g := g) rfl j u hu⟩

theorem ERow.form {w : World} {B : Nat} {v : Value} {es : List Ed} (h : ERow w B v es) : ∃ a c, v = .slice a es.length c ∧ es.length ≤ c ∧ c ≤ maxLen := by
  rcases h.2 with ⟨rfl, hn⟩ | ⟨g, cap, cur, rfl, hg, hh, hnc, hcm, hcs, htake⟩
  · exact ⟨none, 0, by rw [hn], by omega, Nat.zero_le _⟩
  · exact ⟨_, cap, rfl, hnc, hcm⟩

theorem ERow.cell {w : World} {B : Nat} {a : Option Addr} {n c : Nat} {es : List Ed} (h : ERow w B (.slice a n c) es) (t : Nat) (e : Ed) (he : es[t]? = some e) :
    ∃ g, a = some ⟨g, 0, none⟩ ∧ B ≤ g ∧ w.cell? ⟨g, t * 2, none⟩ = some (.int .u8 e.1.toNat) ∧ w.cell? ⟨g, t * 2 + 1, none⟩ = some (.string e.2) := by
  have ht := (List.getElem?_eq_some_iff.1 he).1
  rcases h.2 with ⟨_, hn⟩ | ⟨g, cap, cur, hv, hg, hh, hnc, hcm, hcs, htake⟩
  · omega
  · simp only [Value.slice.injEq] at hv
    obtain ⟨rfl, rfl, rfl⟩ := hv
    obtain ⟨h1, h2⟩ := ed_get es t e he
    refine ⟨g, rfl, hg, ?_, ?_⟩
    · have := World.ownsRow.cells h (g := g) rfl _ _ h1; rw [Addr.add_lit, Nat.zero_add] at this; exact this
    · have := World.ownsRow.cells h (g := g) rfl _ _ h2; rw [Addr.add_lit, Nat.zero_add] at this; exact this

theorem ERow.below {w w' : World} {B : Nat} {v : Value} {es : List Ed} (h : ERow w B v es) (hb : Below w.heap.size w w') : ERow w' B v es := ownsRow_below h hb (Nat.le_refl _)
theorem ERow.base {w : World} {B B' : Nat} {v : Value} {es : List Ed} (h : ERow w B v es) (hb : B' ≤ B) : ERow w B' v es := ownsRow_base h hb

theorem ESrc.below {w w' : World} {v : Value} {xs : List Ed} (h : ESrc w v xs) (hb : Below w.heap.size w w') : ESrc w' v xs := by
  rcases h with h | ⟨ad, c, e, h⟩
  · exact .inl h
  · exact .inr ⟨ad, c, e, h.below hb⟩

/-- One edit, laid out anew. -/
theorem ESrc.one (w : World) (c : UInt8) (s : ByteArray) (x : Int) (hx : x = (c.toNat : Int)) : ESrc (w.alloc (.cells #[.int .u8 x, .string s] 40)) (.slice (some ⟨w.heap.size, 0, none⟩) 1 1) [(c, s)] := by
  subst hx
  right
  refine ⟨_, _, rfl, fun j u hu => ?_⟩
  have hB := Blk.new w 40 [.int .u8 (c.toNat : Int), .string s]
  have hj : j < 2 := by have := (List.getElem?_eq_some_iff.1 hu).1; simpa [edCells] using this
  have := hB.cell j (by simpa using hj)
  rw [Addr.add_lit, Nat.zero_add, ← hu]
  refine this.trans ?_
  rw [← List.getElem?_eq_getElem]
  simp [edCells]

/-- append of edits onto a row of the call's own. -/
theorem wpList_appE {w : World} {ops : Array Oper} {rest : List Oper} {o : Oper} {a : Act} {Q : Exit → Act → World → Prop} (hgd : o.guard = none) (s x : Operand)
    (ho : o.op = .call { callee := .builtin .append, args := #[s, x], argTypes := #[36, 36] }) (B : Nat) (v u : Value) (es news : List Ed) (hs : a.eval s = v) (hx : a.eval x = u)
    (hown : ERow w B v es) (hsrc : ESrc w u news) (hlen : es.length + news.length ≤ 65536) (hbase : B ≤ w.heap.size)
    (h : ∀ v' w', ERow w' B v' (es ++ news) → w.grownBy w' v.ownBlock → Below B w w' → wpList Try.prog ops Q rest (a.put o.dst v') w') : wpList Try.prog ops Q (o :: rest) a w := by
  obtain ⟨i, hi, hzz⟩ := Option.map_eq_some_iff.1 Try.info40
  simp only [Prod.mk.injEq] at hzz
  obtain ⟨hz, hsz, hb⟩ := hzz
  rcases hsrc with ⟨rfl, rfl⟩ | ⟨ad, c, rfl, hv⟩
  · refine wpList_plain hgd fun K hK => ?_
    have hrun := run_append_owned_none (P := Try.prog) w B 36 o.type 40 i 2 Try.underlying36' hi v es.length _ hown
    unfold Oper.wp
    simp [execOp, ho, resolve, invoke, builtin, hs, hx, hrun, Result.andThen]
    exact hK _ _ (h v w (by simpa using hown) ⟨rfl, rfl, rfl, Nat.le_refl _, fun _ _ _ => rfl⟩ (Below.refl _ _))
  · refine wpList_append_own w hgd s x 36 ho B 40 i _ 2 24 Try.underlying36' hi hz hsz hb rfl (by omega) v es.length _ hs hown ad news.length c (news.flatMap edCells) hx (ed_length _) hv (ed_one _) (by simp [maxLen]; omega) (by omega) hbase
      (fun v' w' h2 h3 _ => h v' w' ?_ h3 ((Below.refl _ w).grown h3 hbase (fun k hk => (World.ownsRow.lt hown k hk).1)))
    unfold ERow
    rw [List.length_append, List.flatMap_append]
    exact h2

theorem step_appE {w : World} {ops : Array Oper} {o : Oper} {a : Act} {K : Act → World → Prop} {Q : Exit → Act → World → Prop} {E : Prop} (hgd : o.guard = none) (s x : Operand)
    (ho : o.op = .call { callee := .builtin .append, args := #[s, x], argTypes := #[36, 36] }) (B : Nat) (v u : Value) (es news : List Ed) (hs : a.eval s = v) (hx : a.eval x = u)
    (hown : ERow w B v es) (hsrc : ESrc w u news) (hlen : es.length + news.length ≤ 65536) (hbase : B ≤ w.heap.size)
    (h : ∀ v' w', ERow w' B v' (es ++ news) → w.grownBy w' v.ownBlock → Below B w w' → K (a.put o.dst v') w') :
    if Region.wanted o (yielded ops a.tmps) = true then Oper.wp Try.prog o a w K Q else E := by
  have hw : Region.wanted o (yielded ops a.tmps) = true := by simp [Region.wanted, hgd]
  rw [if_pos hw]
  obtain ⟨i, hi, hzz⟩ := Option.map_eq_some_iff.1 Try.info40
  simp only [Prod.mk.injEq] at hzz
  obtain ⟨hz, hsz, hb⟩ := hzz
  rcases hsrc with ⟨rfl, rfl⟩ | ⟨ad, c, rfl, hv⟩
  · have hrun := run_append_owned_none (P := Try.prog) w B 36 o.type 40 i 2 Try.underlying36' hi v es.length _ hown
    unfold Oper.wp
    simp [execOp, ho, resolve, invoke, builtin, hs, hx, hrun, Result.andThen]
    exact h v w (by simpa using hown) ⟨rfl, rfl, rfl, Nat.le_refl _, fun _ _ _ => rfl⟩ (Below.refl _ _)
  · refine wp_append_own w s x 36 ho B 40 i _ 2 24 Try.underlying36' hi hz hsz hb rfl (by omega) v es.length _ hs hown ad news.length c (news.flatMap edCells) hx (ed_length _) hv (ed_one _) (by simp [maxLen]; omega) (by omega) hbase
      (fun v' w' h2 h3 _ => h v' w' ?_ h3 ((Below.refl _ w).grown h3 hbase (fun k hk => (World.ownsRow.lt hown k hk).1)))
    unfold ERow
    rw [List.length_append, List.flatMap_append]
    exact h2

theorem ed_set (es : List Ed) (t : Nat) (e : Ed) (ht : t < es.length) : ((es.flatMap edCells).set (t * 2) (.int .u8 e.1.toNat)).set (t * 2 + 1) (.string e.2) = (es.set t e).flatMap edCells := by
  induction es generalizing t with
  | nil => simp at ht
  | cons x es ih =>
    rw [List.flatMap_cons]
    cases t with
    | zero => simp [edCells]
    | succ t =>
      have e1 : (t + 1) * 2 = t * 2 + 2 := by omega
      have := ih t (by simpa using ht)
      rw [e1, List.set_cons_succ, List.flatMap_cons, ← this]
      simp [edCells]

def edZ : Ed := (0, ⟨#[]⟩)

theorem ed_zero (M : Nat) : madeCells #[.int .u8 0, .string ⟨#[]⟩] (M * 2) = ((List.replicate M edZ).flatMap edCells).toArray := by
  apply Array.ext'
  apply List.ext_getElem?
  intro j
  have hl := ed_length (List.replicate M edZ)
  rw [List.length_replicate] at hl
  by_cases hj : j < M * 2
  · have hm : j % 2 < 2 := Nat.mod_lt _ (by omega)
    have hq : j / 2 < M := by omega
    obtain ⟨h0, h1⟩ := ed_get (List.replicate M edZ) (j / 2) edZ (by simp [hq])
    simp only [madeCells, Array.toList_map, List.getElem?_map, Array.toList_range]
    rw [List.getElem?_range hj]
    simp only [Option.map_some, List.size_toArray, List.length_cons, List.length_nil]
    by_cases e : j % 2 = 0
    · have e2 : j = j / 2 * 2 := by omega
      rw [← e2] at h0
      rw [h0, e]; rfl
    · have e2 : j = j / 2 * 2 + 1 := by omega
      have e3 : j % 2 = 1 := by omega
      rw [← e2] at h1
      rw [h1, e3]; rfl
  · rw [List.getElem?_eq_none (by simp [size_madeCells]; omega), List.getElem?_eq_none (by rw [hl]; omega)]

theorem make_eds (M : Nat) (hM : M ≤ 60000) (W : World) : (Instr.makeSlice 36 (.int .i64 M) (.int .i64 M)).run Try.prog W = .ok (.slice (some ⟨W.heap.size, 0, none⟩) M M) (W.alloc (.cells ((List.replicate M edZ).flatMap edCells).toArray 40)) := by
  obtain ⟨i, hi, hzz⟩ := Option.map_eq_some_iff.1 Try.info40
  simp only [Prod.mk.injEq] at hzz
  obtain ⟨hz, hs, hb⟩ := hzz
  have h := run_make (P := Try.prog) W 36 40 i _ Try.underlying36' hi hz .i64 .i64 M M (by omega) (by omega) (by rw [hb]; omega) (by omega)
  rw [h, hs]
  simp only [Int.toNat_natCast, Value.cells, ed_zero]

theorem Blk.eds {w : World} {g : Nat} {es : List Ed} (h : Blk w g 40 (es.flatMap edCells)) (t : Nat) (e : Ed) (he : es[t]? = some e) : w.cell? ⟨g, t * 2, none⟩ = some (.int .u8 e.1.toNat) ∧ w.cell? ⟨g, t * 2 + 1, none⟩ = some (.string e.2) := by
  have ht := (List.getElem?_eq_some_iff.1 he).1
  have hl := ed_length es
  obtain ⟨h0, h1⟩ := ed_get es t e he
  rw [List.getElem?_eq_getElem (by omega)] at h0 h1
  rw [h.cell _ (by omega), h.cell _ (by omega)]
  exact ⟨h0, h1⟩

theorem Blk.eset {w : World} {g : Nat} {es : List Ed} (h : Blk w g 40 (es.flatMap edCells)) (t : Nat) (e : Ed) (ht : t < es.length) : Blk ((w.setCell ⟨g, t * 2, none⟩ (.int .u8 e.1.toNat)).setCell ⟨g, t * 2 + 1, none⟩ (.string e.2)) g 40 ((es.set t e).flatMap edCells) := by
  rw [← ed_set es t e ht]
  exact (h.set _ _).set _ _

theorem Blk.erow {w : World} {g : Nat} {es : List Ed} (h : Blk w g 40 (es.flatMap edCells)) {B : Nat} (hb : B ≤ g) (hl : es.length ≤ maxLen) : ERow w B (.slice (some ⟨g, 0, none⟩) es.length es.length) es :=
  ⟨by rw [ed_length], .inr ⟨g, es.length, (es.flatMap edCells).toArray, rfl, hb, h, Nat.le_refl _, hl, by rw [List.size_toArray, ed_length], by rw [← ed_length, List.take_length]⟩⟩

/-- The way back turned round, i edits of it. -/
def revFill (R : List Ed) (i : Nat) : List Ed := List.replicate (R.length - i) edZ ++ (R.take i).reverse
theorem revFill_length (R : List Ed) (i : Nat) (h : i ≤ R.length) : (revFill R i).length = R.length := by simp [revFill]; omega
theorem revFill_zero (R : List Ed) : revFill R 0 = List.replicate R.length edZ := by simp [revFill]
theorem revFill_all (R : List Ed) : revFill R R.length = R.reverse := by simp [revFill]
theorem revFill_set (R : List Ed) (i : Nat) (e : Ed) (h : R[i]? = some e) : (revFill R i).set (R.length - 1 - i) e = revFill R (i + 1) := by
  have hi := (List.getElem?_eq_some_iff.1 h).1
  unfold revFill
  rw [show R.length - i = (R.length - (i + 1)) + 1 by omega, List.replicate_succ', List.append_assoc, List.set_append_right _ _ (by simp; omega)]
  rw [show R.length - 1 - i - (List.replicate (R.length - (i + 1)) edZ).length = 0 by simp; omega, List.singleton_append, List.set_cons_zero, List.take_add_one, h]
  simp

end Go.Proofs.Qxb6603052a
