/-
  TWO ROWS OF EDITS SIDE BY SIDE, and copy onto a row of edits.
-/
import Derived.Test.Qxb6603052aE
import Derived.Laws.CopyRow
namespace Go.Proofs.Qxb6603052a
open Go.RowKit

/-- The rows of two slices of the call's own are not one. -/
def Apart (u v : Value) : Prop := ∀ k, u.ownBlock = some k → v.ownBlock ≠ some k

theorem Apart.symm {u v : Value} (h : Apart u v) : Apart v u := fun k h1 h2 => h k h2 h1
theorem Apart.nil (u : Value) : Apart u (.slice none 0 0) := fun k _ h => by simp [Value.ownBlock] at h
theorem Apart.none (v : Value) : Apart (.slice none 0 0) v := fun k h => by simp [Value.ownBlock] at h

theorem ERow.lt {w : World} {B : Nat} {v : Value} {es : List Ed} (h : ERow w B v es) (k : Nat) (hk : v.ownBlock = some k) : B ≤ k ∧ k < w.heap.size := World.ownsRow.lt h k hk

/-- Where append lays the row: where it lay, or anew. -/
theorem run_appE (w : World) (ty : TypeId) (B : Nat) (v u : Value) (es news : List Ed) (hown : ERow w B v es) (hsrc : ESrc w u news) (hlen : es.length + news.length ≤ 65536) (hbase : B ≤ w.heap.size) :
    ∃ v' w', (Builtin.append_ #[36, 36] ty #[v, u]).run Try.prog w = .ok v' w' ∧ ERow w' B v' (es ++ news) ∧ w.grownBy w' v.ownBlock ∧ (∀ k, v'.ownBlock = some k → v.ownBlock = some k ∨ w.heap.size ≤ k) := by
  obtain ⟨i, hi, hzz⟩ := Option.map_eq_some_iff.1 Try.info40
  simp only [Prod.mk.injEq] at hzz
  obtain ⟨hz, hsz, hb⟩ := hzz
  rcases hsrc with ⟨rfl, rfl⟩ | ⟨ad, c, rfl, hv⟩
  · have hrun := run_append_owned_none (P := Try.prog) w B 36 ty 40 i 2 Try.underlying36' hi v es.length _ hown
    exact ⟨v, w, hrun, by simpa using hown, ⟨rfl, rfl, rfl, Nat.le_refl _, fun _ _ _ => rfl⟩, fun k hk => .inl hk⟩
  · have h63 : es.length + news.length ≤ maxLen := by simp [maxLen]; omega
    have hby : (es.length + news.length) * 24 ≤ 140737488355328 := by omega
    have go : ∀ B', B' ≤ w.heap.size → ERow w B' v es → ∃ v' w', (Builtin.append_ #[36, 36] ty #[v, .slice (some ad) news.length c]).run Try.prog w = .ok v' w' ∧ ERow w' B' v' (es ++ news) ∧ w.grownBy w' v.ownBlock := by
      intro B' hB' ho
      obtain ⟨v', w', hr, h2, h3, _⟩ := run_append_own (P := Try.prog) w B' 36 ty 40 i _ 2 24 Try.underlying36' hi hz hsz hb rfl (by omega) v es.length _ ho ad news.length c (news.flatMap edCells) (ed_length _) hv (ed_one _) h63 hby hB'
      refine ⟨v', w', hr, ?_, h3⟩
      unfold ERow
      rw [List.length_append, List.flatMap_append]
      exact h2
    rcases hown.2 with ⟨rfl, hn⟩ | ⟨g, cap, cur, rfl, hg, hh, hnc, hcm, hcs, htake⟩
    · obtain rfl : es = [] := List.eq_nil_of_length_eq_zero hn
      obtain ⟨v', w', hr, h2, h3⟩ := go w.heap.size (Nat.le_refl _) (ERow.nil _ _)
      exact ⟨v', w', hr, h2.base hbase, h3, fun k hk => .inr (h2.lt k hk).1⟩
    · obtain ⟨v', w', hr, h2, h3⟩ := go B hbase hown
      refine ⟨v', w', hr, h2, h3, ?_⟩
      by_cases hroom : es.length + news.length ≤ cap
      · have hfit : es.length * i.size + (news.flatMap edCells).length ≤ cur.size := by rw [ed_length, hcs, hsz, ← Nat.add_mul]; exact Nat.mul_le_mul_right _ hroom
        have hr2 := run_append_room (P := Try.prog) w 36 ty 40 i Try.underlying36' hi g es.length cap cur hh ad news.length c (news.flatMap edCells) (by rw [ed_length, hsz]) hv (ed_one _) hroom hfit
        rw [hr] at hr2
        simp only [Result.ok.injEq] at hr2
        obtain ⟨rfl, _⟩ := hr2
        intro k hk
        left; exact hk
      · have hr2 := run_append_grow (P := Try.prog) w 36 ty 40 i _ Try.underlying36' hi hz ⟨g, 0, none⟩ es.length cap (es.flatMap edCells) (by rw [ed_length, hsz]) (World.ownsRow.cells hown (g := g) rfl) ad news.length c (news.flatMap edCells) (by rw [ed_length, hsz]) hv (by omega) (by simp only [maxLen] at h63; omega) (growslice_fits (by omega) (by rw [hb]; exact hby))
        rw [hr] at hr2
        simp only [Result.ok.injEq] at hr2
        obtain ⟨rfl, _⟩ := hr2
        intro k hk
        right
        simp only [Value.ownBlock, Option.some.injEq] at hk
        subst hk
        exact Nat.le_refl _

/-- append onto one of two rows: the other stays, and they stay apart. -/
theorem wpList_appE2 {w : World} {ops : Array Oper} {rest : List Oper} {o : Oper} {a : Act} {Q : Exit → Act → World → Prop} (hgd : o.guard = none) (s x : Operand)
    (ho : o.op = .call { callee := .builtin .append, args := #[s, x], argTypes := #[36, 36] }) (B : Nat) (v u : Value) (es news : List Ed) (hs : a.eval s = v) (hx : a.eval x = u)
    (hown : ERow w B v es) (hsrc : ESrc w u news) (hlen : es.length + news.length ≤ 65536) (hbase : B ≤ w.heap.size) (v2 : Value) (es2 : List Ed) (h2 : ERow w B v2 es2) (hap : Apart v v2)
    (h : ∀ v' w', ERow w' B v' (es ++ news) → ERow w' B v2 es2 → Apart v' v2 → Below B w w' → wpList Try.prog ops Q rest (a.put o.dst v') w') : wpList Try.prog ops Q (o :: rest) a w := by
  obtain ⟨v', w', hr, hE, hg, hk⟩ := run_appE w o.type B v u es news hown hsrc hlen hbase
  refine wpList_plain hgd fun K hK => ?_
  unfold Oper.wp
  simp [execOp, ho, resolve, invoke, builtin, hs, hx, hr, Result.andThen]
  refine hK _ _ (h v' w' hE ?_ ?_ ((Below.refl _ w).grown hg hbase (fun k hk => (World.ownsRow.lt hown k hk).1)))
  · refine World.ownsRow.kept h2 hg ?_
    cases hv2 : v2.ownBlock with
    | none => exact .inl rfl
    | some k => exact .inr (fun e => hap k e.symm hv2)
  · intro k h3 h4
    rcases hk k h3 with h5 | h5
    · exact hap k h5 h4
    · have := (h2.lt k h4).2
      omega

theorem ed_take (es : List Ed) (i : Nat) : (es.flatMap edCells).take (i * 2) = (es.take i).flatMap edCells := by
  induction es generalizing i with
  | nil => simp
  | cons e es ih =>
    cases i with
    | zero => simp
    | succ i =>
      rw [List.take_succ_cons, List.flatMap_cons, List.flatMap_cons, ← ih i, Nat.add_mul, Nat.one_mul]
      simp [edCells]

theorem ed_drop (es : List Ed) (i : Nat) : (es.flatMap edCells).drop (i * 2) = (es.drop i).flatMap edCells := by
  induction es generalizing i with
  | nil => simp
  | cons e es ih =>
    cases i with
    | zero => simp
    | succ i =>
      rw [List.drop_succ_cons, List.flatMap_cons, ← ih i, Nat.add_mul, Nat.one_mul]
      simp [edCells]

theorem run_copyE (w : World) (ty : TypeId) (g o dLen dCap : Nat) (a : Addr) (sLen sCap : Nat) (cur : Array Value) (t : TypeId) (cs : List Value)
    (hg : w.heap[g]? = some (.cells cur t (0, 0))) (hn : cs.length = Nat.min sLen dLen * 2)
    (hsrc : ∀ j v, cs[j]? = some v → w.cell? (a.add j) = some v) (hfit : o + cs.length ≤ cur.size) (h1 : ∀ v ∈ cs, v.oneCell' = true) :
    (Builtin.copy_ #[36, 36] ty #[.slice (some ⟨g, o, none⟩) dLen dCap, .slice (some a) sLen sCap]).run Try.prog w =
      .ok (goInt (Nat.min sLen dLen)) (w.setRow g (cur.toList.take o ++ cs ++ cur.toList.drop (o + cs.length)).toArray) := by
  obtain ⟨i, hi, hzz⟩ := Option.map_eq_some_iff.1 Try.info40
  simp only [Prod.mk.injEq] at hzz
  obtain ⟨hz, hsz, hb⟩ := hzz
  have hl := run_loadCells_list (P := Try.prog) w a cs hsrc
  have hst := run_storeCells_at Try.prog g o t cs 0 cur w hg (by simpa using hfit) h1
  simp [Builtin.copy_, run_underlying Try.underlying36', Builtin.lenOf, Builtin.firstCells, sizeOf, typeInfo, hi, hsz, ← hn, hl, hst]

/-- copy onto a row of edits from place i on. -/
theorem step_copyE {w : World} {ops : Array Oper} {o : Oper} {a : Act} {K : Act → World → Prop} {Q : Exit → Act → World → Prop} {E : Prop} (hgd : o.guard = none) (d s : Operand)
    (ho : o.op = .call { callee := .builtin .copy, args := #[d, s], argTypes := #[36, 36] }) (B g i n c dLen dCap : Nat) (u : Value) (es news : List Ed) (hd : a.eval d = .slice (some ⟨g, i * 2, none⟩) dLen dCap) (hs : a.eval s = u)
    (hown : ERow w B (.slice (some ⟨g, 0, none⟩) n c) es) (hsrc : ESrc w u news) (hpos : news ≠ []) (hdl : news.length ≤ dLen) (hfit : i + news.length ≤ es.length)
    (h : ∀ w', ERow w' B (.slice (some ⟨g, 0, none⟩) n c) (es.take i ++ news ++ es.drop (i + news.length)) → Below B w w' → K (a.put o.dst (goInt news.length)) w') :
    if Region.wanted o (yielded ops a.tmps) = true then Oper.wp Try.prog o a w K Q else E := by
  have hw : Region.wanted o (yielded ops a.tmps) = true := by simp [Region.wanted, hgd]
  rw [if_pos hw]
  rcases hsrc with ⟨_, rfl⟩ | ⟨ad, cs, rfl, hv⟩
  · exact absurd rfl hpos
  rcases hown.2 with ⟨hv, _⟩ | ⟨g', cap, cur, hv', hg, hh, hnc, hcm, hcs, htake⟩
  · cases hv
  simp only [Value.slice.injEq, Option.some.injEq, Addr.mk.injEq, and_true] at hv'
  obtain ⟨rfl, rfl, rfl⟩ := hv'
  have hmin : Nat.min news.length dLen = news.length := Nat.min_eq_left hdl
  have hrun := run_copyE w o.type g (i * 2) dLen dCap ad news.length cs cur 40 (news.flatMap edCells) hh (by rw [ed_length, hmin]) hv (by rw [ed_length, hcs]; omega) (ed_one _)
  rw [hmin] at hrun
  obtain ⟨R, hR⟩ : ∃ R, R = (cur.toList.take (i * 2) ++ news.flatMap edCells ++ cur.toList.drop (i * 2 + (news.flatMap edCells).length)) := ⟨_, rfl⟩
  rw [← hR] at hrun
  unfold Oper.wp
  simp [execOp, ho, resolve, invoke, builtin, hd, hs, hrun, Result.andThen]
  have hlen : (es.take i ++ news ++ es.drop (i + news.length)).length = es.length := by simp; omega
  have hcl : cur.toList.length = c * 2 := by simpa using hcs
  have hsl : cur.toList.take (es.length * 2) = es.flatMap edCells := htake
  subst hR
  refine h _ ?_ ⟨rfl, rfl, rfl, by simp [World.setRow], fun k hk => setRow_other w g k _ (by omega)⟩
  refine ⟨by rw [ed_length], .inr ⟨g, c, _, by rw [hlen], hg, setRow_heap w g _ _ 40 _ hh, by rw [hlen]; exact hnc, hcm, ?_, ?_⟩⟩
  · simp only [List.size_toArray, List.length_append, List.length_take, List.length_drop, hcl, ed_length]
    omega
  · rw [hlen]
    have e1 : cur.toList.take (i * 2) = (es.take i).flatMap edCells := by
      rw [← ed_take, ← hsl, List.take_take, Nat.min_eq_left (by omega)]
    have e2 : (cur.toList.drop (i * 2 + (news.flatMap edCells).length)).take ((es.length - (i + news.length)) * 2) = (es.drop (i + news.length)).flatMap edCells := by
      rw [← ed_drop, ← hsl, ed_length, ← Nat.add_mul, List.drop_take]
      congr 1; omega
    rw [e1, List.flatMap_append, List.flatMap_append, ← e2]
    have e3 : es.length * 2 = ((es.take i).flatMap edCells ++ news.flatMap edCells).length + (es.length - (i + news.length)) * 2 := by
      rw [List.length_append, ed_length, ed_length, List.length_take]; omega
    rw [e3]
    simp only [List.append_assoc]
    rw [← List.append_assoc, ← List.append_assoc]
    rw [List.take_length_add_append]

end Go.Proofs.Qxb6603052a
