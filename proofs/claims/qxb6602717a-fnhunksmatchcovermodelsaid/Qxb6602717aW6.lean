/-
  THE WALK OF 'Lines'.
-/
import Derived.Test.Qxb6602717aW5
namespace Go.Proofs.Qxb6602717a
open Go.RowKit
open My (scriptOps norm number linesOf)

def ob (c : UInt8) : ByteArray := ⟨#[c]⟩
theorem opV_ob (c : UInt8) : opV c = .string (ob c) := rfl

theorem ob_eq (c d : UInt8) : ((ob c).toList == [d]) = decide (c = d) := by
  have : (ob c).toList = [c] := by rw [ByteArray.toList_eq]; rfl
  rw [this]
  by_cases h : c = d
  · subst h; simp
  · simp [h]

theorem script_len (aa bb : List ByteArray) : (scriptOps aa bb).length ≤ 2 * (aa.length + bb.length) := by
  have h1 := My.pre_le aa bb
  have h2 := My.suf_le aa bb (My.pre aa bb)
  unfold My.scriptOps
  have h3 := shortest_len ((aa.take (aa.length - My.suf aa bb (My.pre aa bb))).drop (My.pre aa bb)) ((bb.take (bb.length - My.suf aa bb (My.pre aa bb))).drop (My.pre aa bb))
  simp only [List.length_drop, List.length_take] at h3
  simp only [List.length_append, List.length_replicate]
  omega

/-- The cell of an op's row. -/
theorem own_op {w : World} {B : Nat} {a : Option Addr} {M c : Nat} {cur : List UInt8} (h : w.ownsRow B 31 1 (.slice a M c) M (cur.map opV)) (i : Nat) (hi : i < cur.length) :
    ∃ g, a = some ⟨g, 0, none⟩ ∧ B ≤ g ∧ w.cell? ⟨g, i, none⟩ = some (.string (ob cur[i])) ∧ w.frozen? ⟨g, i, none⟩ = false := by
  have hl := h.1
  simp at hl
  obtain ⟨g, c', hv, hg⟩ := owns_get h (by omega)
  simp only [Value.slice.injEq, true_and] at hv
  obtain ⟨rfl, rfl⟩ := hv
  exact ⟨g, rfl, (h.lt g rfl).1, hg i _ (by simp [hi, opV_ob]), h.frozenAt i⟩

theorem laid_set (P run rest : List UInt8) (u : Nat) (hu : u < run.length) (c : UInt8) (hc : (My.laidRun run)[u]? = some c) :
    ((P ++ ((My.laidRun run).take u ++ (run.drop u ++ rest))).map opV).set (P.length + u) (opV c) = (P ++ ((My.laidRun run).take (u + 1) ++ (run.drop (u + 1) ++ rest))).map opV := by
  have hl := My.laidRun_length run
  rw [← List.map_set]
  congr 1
  rw [List.set_append_right _ _ (by omega), show P.length + u - P.length = u by omega, List.set_append_right _ _ (by simp; omega)]
  have e1 : u - ((My.laidRun run).take u).length = 0 := by simp; omega
  rw [e1, List.drop_eq_getElem_cons hu, List.cons_append, List.set_cons_zero]
  have e2 : (My.laidRun run).take (u + 1) = (My.laidRun run).take u ++ [c] := by
    rw [List.take_add_one, hc]; rfl
  rw [e2]; simp

theorem laid_get (run : List UInt8) (u : Nat) (hu : u < run.length) : (My.laidRun run)[u]? = some (if u < run.count 45 then 45 else 43) := by
  have hc := List.count_le_length (a := (45 : UInt8)) (l := run)
  unfold My.laidRun
  by_cases h : u < run.count 45
  · rw [List.getElem?_append_left (by simp; omega), if_pos h]; simp [h]
  · rw [List.getElem?_append_right (by simp; omega), if_neg h, List.getElem?_replicate, if_pos (by simp; omega)]

/-- The cells of the lines. -/
def lineCells (q : UInt8 × Nat × Nat) : List Value := [.string (ob q.1), .int .i64 q.2.1, .int .i64 q.2.2]
def lrow (L : List (UInt8 × Nat × Nat)) (M : Nat) : List Value := L.flatMap lineCells ++ (List.replicate (M - L.length) [Value.string ⟨#[]⟩, .int .i64 0, .int .i64 0]).flatten

theorem flat_length (L : List (UInt8 × Nat × Nat)) : (L.flatMap lineCells).length = 3 * L.length := by
  induction L with
  | nil => rfl
  | cons q L ih => simp only [List.flatMap_cons, List.length_append, ih, List.length_cons]; simp [lineCells]; omega
theorem zeros_length (n : Nat) : ((List.replicate n [Value.string ⟨#[]⟩, .int .i64 0, .int .i64 0]).flatten).length = 3 * n := by
  induction n with
  | zero => rfl
  | succ n ih => rw [List.replicate_succ, List.flatten_cons, List.length_append, ih]; simp; omega
theorem lrow_length (L : List (UInt8 × Nat × Nat)) (M : Nat) (h : L.length ≤ M) : (lrow L M).length = 3 * M := by
  unfold lrow
  rw [List.length_append, flat_length, zeros_length]; omega

theorem lrow_set (L : List (UInt8 × Nat × Nat)) (M : Nat) (h : L.length < M) (q : UInt8 × Nat × Nat) :
    (((lrow L M).set (L.length * 3) (.string (ob q.1))).set (L.length * 3 + 1) (.int .i64 q.2.1)).set (L.length * 3 + 2) (.int .i64 q.2.2) = lrow (L ++ [q]) M := by
  unfold lrow
  have hf := flat_length L
  rw [show M - L.length = (M - (L ++ [q]).length) + 1 by simp; omega, List.replicate_succ, List.flatten_cons]
  rw [List.set_append_right _ _ (by omega), List.set_append_right _ _ (by omega), List.set_append_right _ _ (by omega), hf]
  rw [show L.length * 3 - 3 * L.length = 0 by omega, show L.length * 3 + 1 - 3 * L.length = 1 by omega, show L.length * 3 + 2 - 3 * L.length = 2 by omega]
  simp [lineCells]

theorem lrow_cells (L : List (UInt8 × Nat × Nat)) (M : Nat) (h : L.length < M) (i : Nat) (hi : i < 3) : (lrow L M)[L.length * 3 + i]? = [Value.string ⟨#[]⟩, .int .i64 0, .int .i64 0][i]? := by
  unfold lrow
  have hf := flat_length L
  rw [show M - L.length = (M - (L.length + 1)) + 1 by omega, List.replicate_succ, List.flatten_cons]
  rw [List.getElem?_append_right (by omega), hf, List.getElem?_append_left (by simp; omega)]
  congr 1; omega

theorem zeros_get (n j : Nat) (h : j < 3 * n) : ((List.replicate n [Value.string ⟨#[]⟩, .int .i64 0, .int .i64 0]).flatten)[j]? = [Value.string ⟨#[]⟩, .int .i64 0, .int .i64 0][j % 3]? := by
  induction n generalizing j with
  | zero => omega
  | succ n ih =>
    rw [List.replicate_succ, List.flatten_cons]
    by_cases hj : j < 3
    · rw [List.getElem?_append_left (by simpa using hj), Nat.mod_eq_of_lt hj]
    · rw [List.getElem?_append_right (by simp; omega)]
      simp only [List.length_cons, List.length_nil]
      rw [ih (j - (0 + 1 + 1 + 1)) (by omega)]
      congr 1; omega

theorem lrow_zero (M : Nat) : madeCells #[.string ⟨#[]⟩, .int .i64 0, .int .i64 0] (M * 3) = (lrow [] M).toArray := by
  apply Array.ext'
  simp only [lrow, List.flatMap_nil, List.nil_append, List.length_nil, Nat.sub_zero]
  apply List.ext_getElem?
  intro j
  by_cases hj : j < M * 3
  · rw [zeros_get M j (by omega)]
    have hm : j % 3 < 3 := Nat.mod_lt _ (by omega)
    simp only [madeCells, Array.toList_map, List.getElem?_map, Array.toList_range]
    rw [List.getElem?_range hj]
    simp only [Option.map_some, List.size_toArray, List.length_cons, List.length_nil]
    generalize j % 3 = r at *
    match r, hm with
    | 0, _ => rfl
    | 1, _ => rfl
    | 2, _ => rfl
  · rw [List.getElem?_eq_none (by simp [size_madeCells]; omega), List.getElem?_eq_none (by rw [zeros_length]; omega)]

theorem Try.info37 : (Try.prog.info? 37).map (fun i => (i.zero, i.size, i.bytes)) = some (some (.agg #[.string ⟨#[]⟩, .int .i64 0, .int .i64 0]), 3, 32) := by kernel_rfl

theorem make_lines (M : Nat) (hM : M ≤ 60000) (W : World) : (Instr.makeSlice 34 (.int .i64 M) (.int .i64 M)).run Try.prog W = .ok (.slice (some ⟨W.heap.size, 0, none⟩) M M) (W.alloc (.cells (lrow [] M).toArray 37)) := by
  obtain ⟨i, hi, hzz⟩ := Option.map_eq_some_iff.1 Try.info37
  simp only [Prod.mk.injEq] at hzz
  obtain ⟨hz, hs, hb⟩ := hzz
  have h := run_make (P := Try.prog) W 34 37 i _ Try.underlying34 hi hz .i64 .i64 M M (by omega) (by omega) (by rw [hb]; omega) (by omega)
  rw [h, hs]
  simp only [Int.toNat_natCast, Value.cells, lrow_zero]

def cntA (l : List UInt8) : Nat := l.countP (fun o => o != 43)
def cntB (l : List UInt8) : Nat := l.countP (fun o => o != 45)
theorem number_get (l : List UInt8) (i j t : Nat) : (number l i j)[t]? = l[t]?.map fun o => (o, i + cntA (l.take t), j + cntB (l.take t)) := by
  induction l generalizing i j t with
  | nil => simp [number]
  | cons o l ih =>
    cases t with
    | zero => simp [number, cntA, cntB]
    | succ t =>
      simp only [number, List.getElem?_cons_succ, ih, List.take_succ_cons]
      cases l[t]? with
      | none => rfl
      | some x =>
        simp only [Option.map_some, Option.some.injEq, Prod.mk.injEq, true_and]
        unfold cntA cntB
        by_cases h1 : o = 43
        · subst h1; simp; omega
        · by_cases h2 : o = 45
          · subst h2; simp; omega
          · simp [h1, h2]; omega

theorem cntA_succ (P : List UInt8) (t : Nat) (o : UInt8) (h : P[t]? = some o) : cntA (P.take (t + 1)) = cntA (P.take t) + if o = 43 then 0 else 1 := by
  unfold cntA
  rw [List.take_add_one, h, List.countP_append]
  by_cases e : o = 43
  · subst e; rfl
  · simp [e]
theorem cntB_succ (P : List UInt8) (t : Nat) (o : UInt8) (h : P[t]? = some o) : cntB (P.take (t + 1)) = cntB (P.take t) + if o = 45 then 0 else 1 := by
  unfold cntB
  rw [List.take_add_one, h, List.countP_append]
  by_cases e : o = 45
  · subst e; rfl
  · simp [e]
theorem number_take (P : List UInt8) (t : Nat) (o : UInt8) (h : P[t]? = some o) : (number P 0 0).take (t + 1) = (number P 0 0).take t ++ [(o, cntA (P.take t), cntB (P.take t))] := by
  rw [List.take_add_one, number_get, h]; simp

theorem lrow_step {wr : World} {H M t ai bi : Nat} {P : List UInt8} {o : UInt8} (hK : Blk wr H 37 (lrow ((number P 0 0).take t) M)) (hL : ((number P 0 0).take t).length = t) (ht : t < M) (ho : P[t]? = some o) (ha : ai = cntA (P.take t)) (hb : bi = cntB (P.take t)) :
    Blk (((wr.setCell ⟨H, t * 3, none⟩ (.string (ob o))).setCell ⟨H, t * 3 + 1, none⟩ (.int .i64 ai)).setCell ⟨H, t * 3 + 2, none⟩ (.int .i64 bi)) H 37 (lrow ((number P 0 0).take (t + 1)) M) := by
  have h := lrow_set ((number P 0 0).take t) M (by rw [hL]; exact ht) (o, cntA (P.take t), cntB (P.take t))
  rw [hL] at h
  rw [number_take P t o ho, ← h, ← ha, ← hb]
  exact ((hK.set _ _).set _ _).set _ _

/-- A new slice of these lines; nothing old has turned. -/
def Lns (w : World) (L : List (UInt8 × Nat × Nat)) (e : Ending) (w' : World) : Prop :=
  ∃ g, e = .returned (.slice (some ⟨g, 0, none⟩) L.length L.length) ∧ w.heap.size ≤ g ∧ Blk w' g 37 (L.flatMap lineCells) ∧ Below w.heap.size w w'

set_option maxHeartbeats 2000000 in
set_option maxRecDepth 100000 in
theorem lines_any (a b : Option Addr) (ca cbb : Nat) (aa bb : List ByteArray) (w : World) (hla : aa.length ≤ 8192) (hlb : bb.length ≤ 8192) (hca : aa.length ≤ ca) (hcb : bb.length ≤ cbb) (hma : ca ≤ maxLen) (hmb : cbb ≤ maxLen) (ha : SAt w a aa) (hb : SAt w b bb) :
    Calls Try.prog 18 #[.slice a aa.length ca, .slice b bb.length cbb] w (Lns w (linesOf aa bb)) := by
  have HLO := hid (show linesOf aa bb = number (norm (scriptOps aa bb) 0 0) 0 0 from rfl)
  have HS := hid (script_any a b ca cbb aa bb w hla hlb hca hcb hma hmb ha hb)
  clear ha hb
  go_enter Try.func18, Try.ntmps18
  go_wp2_with (fail)
  refine HS.out.mono ?_
  have hsl := script_len aa bb
  obtain ⟨ops, hops⟩ : ∃ ops, ops = scriptOps aa bb := ⟨_, rfl⟩
  rw [← hops] at HLO hsl ⊢
  clear hops
  rintro e w1 ⟨v1, rfl, ho1, hb1⟩
  obtain ⟨g1, c1, rfl⟩ := own_form ho1
  obtain ⟨M, hM⟩ : ∃ M, ops.length = M := ⟨_, rfl⟩
  have HM := hid hM
  rw [hM] at ho1 ⊢
  have HO1 := hid ho1
  have HB1 := hid hb1
  have hM2 : M ≤ 60000 := by omega
  clear hsl ho1 hb1 HS hM
  go_wp2_with (fail)
  go_loopg [6] M (fun gm sv wr => ∃ (P R : List UInt8), gm = M - P.length ∧ sv = .int .i64 P.length ∧ P.length + R.length = M ∧ P ++ norm R 0 0 = norm ops 0 0 ∧ wr.ownsRow w.heap.size 31 1 (.slice g1 M c1) M ((P ++ R).map opV) ∧ Below w.heap.size w wr)
  case atStart => exact ⟨[], ops, rfl, rfl, by simpa using HM.out, rfl, HO1.out, HB1.out⟩
  case round =>
    obtain ⟨P, R, rfl, rfl, hPR, hno, hown, hB⟩ := hrel
    have HNO := hid hno
    have HOW := hid hown
    have HB := hid hB
    clear hno hown hB
    rcases R with _ | ⟨o, R⟩
    · simp only [List.length_nil, Nat.add_zero] at hPR
      have HPR := hid hPR
      have hnP : P = norm ops 0 0 := by have := HNO.out; simpa [norm] using this
      have HNP := hid hnP
      have n1 : ¬ P.length < M := by omega
      have HOW2 := hid (show wr.ownsRow w.heap.size 31 1 (.slice g1 M c1) M (P.map opV) by have := HOW.out; simpa using this)
      have hmk := make_lines M hM2
      have hszr := HB.out.size
      clear hPR hnP HOW
      obtain ⟨w3, hw3⟩ : ∃ w3, w3 = wr := ⟨_, rfl⟩
      subst hw3
      go_wp2_with (fail)
      clear hmk
      go_loopg [11, 12, 73] M (fun gm av bv tv wr' => ∃ t ai bi : Nat, gm = M - t ∧ t ≤ M ∧ tv = .int .i64 t ∧ ai = cntA (P.take t) ∧ bi = cntB (P.take t) ∧ av = .int .i64 ai ∧ bv = .int .i64 bi ∧ ai ≤ t ∧ bi ≤ t ∧ Below w3.heap.size w3 wr' ∧ Blk wr' w3.heap.size 37 (lrow ((number P 0 0).take t) M))
      case atStart => exact ⟨0, 0, 0, rfl, by omega, rfl, rfl, rfl, rfl, rfl, by omega, by omega, (Below.refl _ _).alloc (Nat.le_refl _) _, Blk.new w3 37 _⟩
      case round =>
        obtain ⟨t, ai, bi, rfl, ht, rfl, hai, hbi, rfl, rfl, hai2, hbi2, hB3, hK3⟩ := hrel
        have HAI := hid hai
        have HBI := hid hbi
        have HB3 := hid hB3
        have HK3 := hid hK3
        have hLt : ((number P 0 0).take t).length = t := by rw [List.length_take, My.number_length]; have := HPR.out; omega
        have HLT := hid hLt
        by_cases hlt : t < M
        · obtain ⟨g, rfl, hBg, cg, fg⟩ := own_op (ownsRow_below HOW2.out hB3 (Nat.le_refl _)) t (by have := HPR.out; omega)
          have hlt1 : (t : Int) < M := by omega
          have e0 := lrow_cells ((number P 0 0).take t) M (by rw [hLt]; exact hlt) 0 (by omega)
          have e1 := lrow_cells ((number P 0 0).take t) M (by rw [hLt]; exact hlt) 1 (by omega)
          have e2 := lrow_cells ((number P 0 0).take t) M (by rw [hLt]; exact hlt) 2 (by omega)
          rw [hLt] at e0 e1 e2
          have hll := lrow_length ((number P 0 0).take t) M (by rw [hLt]; omega)
          have d0 : wr.cell? ⟨w3.heap.size, t * 3, none⟩ = some (.string ⟨#[]⟩) := by rw [hK3.cell _ (by rw [hll]; omega)]; rw [Nat.add_zero, List.getElem?_eq_getElem (by rw [hll]; omega)] at e0; exact e0
          have d1 : wr.cell? ⟨w3.heap.size, t * 3 + 1, none⟩ = some (.int .i64 0) := by rw [hK3.cell _ (by rw [hll]; omega)]; rw [List.getElem?_eq_getElem (by rw [hll]; omega)] at e1; exact e1
          have d2 : wr.cell? ⟨w3.heap.size, t * 3 + 2, none⟩ = some (.int .i64 0) := by rw [hK3.cell _ (by rw [hll]; omega)]; rw [List.getElem?_eq_getElem (by rw [hll]; omega)] at e2; exact e2
          have f0 := hK3.frozen (t * 3)
          have f1 := hK3.frozen (t * 3 + 1)
          have f2 := hK3.frozen (t * 3 + 2)
          obtain ⟨o, ho⟩ : ∃ o, P[t]? = some o := ⟨P[t]'(by have := HPR.out; omega), List.getElem?_eq_getElem _⟩
          have ho2 : P[t]'(by have := HPR.out; omega) = o := by rw [List.getElem?_eq_getElem (by have := HPR.out; omega)] at ho; exact Option.some.inj ho
          rw [ho2] at cg
          have HOO := hid ho
          clear e0 e1 e2 hll hai hbi hB3 hK3 hLt ho ho2
          have hbl : Below w3.heap.size w3 (((wr.setCell ⟨w3.heap.size, t * 3, none⟩ (.string (ob o))).setCell ⟨w3.heap.size, t * 3 + 1, none⟩ (.int .i64 ai)).setCell ⟨w3.heap.size, t * 3 + 2, none⟩ (.int .i64 bi)) := ((HB3.out.setCell (Nat.le_refl _) _).setCell (Nat.le_refl _) _).setCell (Nat.le_refl _) _
          have HBL := hid hbl
          have HST := hid (lrow_step HK3.out HLT.out hlt HOO.out HAI.out HBI.out)
          have HCA := hid (cntA_succ P t o HOO.out)
          have HCB := hid (cntB_succ P t o HOO.out)
          rw [← HAI.out] at HCA
          rw [← HBI.out] at HCB
          clear hbl
          by_cases h43 : o = 43
          · have hb1 : ((ob o).toList == [43]) = true := by rw [ob_eq]; exact decide_eq_true h43
            have hb2 : ((ob o).toList == [45]) = false := by rw [ob_eq]; exact decide_eq_false (by rw [h43]; decide)
            have HA2 := hid (show ai = cntA (P.take (t + 1)) by rw [HCA.out, if_pos h43]; rfl)
            have HB2 := hid (show bi + 1 = cntB (P.take (t + 1)) by rw [HCB.out, if_neg (by rw [h43]; decide)])
            clear h43
            go_wp2_with (fail)
            go_roundg (M - (t + 1))
            case measure => omega
            case rel => exact ⟨t + 1, ai, bi + 1, rfl, by omega, by go_num, HA2.out, HB2.out, rfl, by go_num, by omega, by omega, HBL.out, HST.out⟩
          · have hb1 : ((ob o).toList == [43]) = false := by rw [ob_eq]; exact decide_eq_false h43
            have HA2 := hid (show ai + 1 = cntA (P.take (t + 1)) by rw [HCA.out, if_neg h43])
            by_cases h45 : o = 45
            · have hb2 : ((ob o).toList == [45]) = true := by rw [ob_eq]; exact decide_eq_true h45
              have HB2 := hid (show bi = cntB (P.take (t + 1)) by rw [HCB.out, if_pos h45]; rfl)
              clear h43 h45
              go_wp2_with (fail)
              go_roundg (M - (t + 1))
              case measure => omega
              case rel => exact ⟨t + 1, ai + 1, bi, rfl, by omega, by go_num, HA2.out, HB2.out, by go_num, rfl, by omega, by omega, HBL.out, HST.out⟩
            · have hb2 : ((ob o).toList == [45]) = false := by rw [ob_eq]; exact decide_eq_false h45
              have HB2 := hid (show bi + 1 = cntB (P.take (t + 1)) by rw [HCB.out, if_neg h45])
              clear h43 h45
              go_wp2_with (fail)
              go_roundg (M - (t + 1))
              case measure => omega
              case rel => exact ⟨t + 1, ai + 1, bi + 1, rfl, by omega, by go_num, HA2.out, HB2.out, by go_num, by go_num, by omega, by omega, HBL.out, HST.out⟩
        · obtain rfl : t = M := by omega
          have hK := HK3.out
          have hml : (number P 0 0).length = t := by rw [My.number_length]; exact HPR.out
          rw [List.take_of_length_le (by omega)] at hK
          unfold lrow at hK
          rw [hml, Nat.sub_self] at hK
          simp only [List.replicate_zero, List.flatten_nil, List.append_nil] at hK
          have HK := hid hK
          have HML := hid hml
          clear hK hml hai hbi hB3 hK3 hLt
          go_wp2_with (fail)
          go_ret
          have e1 : linesOf aa bb = number P 0 0 := by rw [HLO.out, HNP.out]
          rw [e1]
          exact ⟨w3.heap.size, by rw [HML.out]; rfl, hszr, HK.out, HB.out.trans (HB3.out.mono hszr)⟩
    · simp only [List.length_cons] at hPR
      obtain ⟨g, rfl, hBg, cg, fg⟩ := own_op HOW.out P.length (by simp)
      rw [List.getElem_append_right (by simp)] at cg
      simp only [Nat.sub_self, List.getElem_cons_zero] at cg
      by_cases ho : o = 32
      · have hob : ((ob o).toList == [32]) = true := by rw [ob_eq]; exact decide_eq_true ho
        have HN2 := hid (show (P ++ [32]) ++ norm R 0 0 = norm ops 0 0 by rw [← HNO.out, ho, norm, if_pos rfl]; simp)
        have HO2 := hid (show wr.ownsRow w.heap.size 31 1 (.slice (some ⟨g, 0, none⟩) M c1) M (((P ++ [32]) ++ R).map opV) by have := HOW.out; rw [ho] at this; simpa using this)
        clear HNO HOW ho fg
        go_wp2_with (fail)
        go_roundg (M - (P.length + 1))
        case measure => omega
        case rel => exact ⟨P ++ [32], R, by simp, by simp, by simp; omega, HN2.out, HO2.out, HB.out⟩
      · have hob : ((ob o).toList == [32]) = false := by rw [ob_eq]; exact decide_eq_false ho
        have hPM : P.length < M := by omega
        have hPR1 : M ≤ P.length + (R.length + 1) := by omega
        have hPR2 : P.length + (R.length + 1) ≤ M := by omega
        clear hPR
        go_wp2_with (fail)
        go_loopg [7, 8] (R.length + 1) (fun gm ev rv wr' => ∃ (run rest : List UInt8) (en rm : Nat), gm = rest.length ∧ o :: R = run ++ rest ∧ (∀ x ∈ run, x ≠ 32) ∧ en = P.length + run.length ∧ rm = run.count 45 ∧ ev = .int .i64 en ∧ rv = .int .i64 rm ∧ wr = wr')
        case atStart => exact ⟨[], o :: R, P.length, 0, by simp, rfl, by simp, by simp, by simp, rfl, rfl, rfl⟩
        case round =>
          obtain ⟨run, rest, en, rm, rfl, hrr, hrun, hen, hrm, rfl, rfl, rfl⟩ := hrel
          have hcl := List.count_le_length (a := (45 : UInt8)) (l := run)
          have hlen : run.length + rest.length = R.length + 1 := by have := congrArg List.length hrr; simpa using this.symm
          have HRR := hid hrr
          have HRUN := hid hrun
          have HEN := hid hen
          have HRM := hid hrm
          have n1 : en ≤ M := by omega
          have n2 : rm ≤ M := by omega
          clear hrr hrun
          generalize hS : (match rest with | [] => false | x :: _ => decide (x ≠ 32)) = S
          have HS := hid hS
          clear hS
          go_upto_region 7 with (clear hen hrm hcl hlen; fail)
          go_cut [40] (fun t wc => t = .bool S ∧ wr = wc)
          case first =>
            rcases rest with _ | ⟨x, rest⟩
            · have HS2 := hid (show S = false from HS.out.symm)
              have h1 : ¬ (en : Int) < M := by simp only [List.length_nil] at hlen; omega
              clear hen hrm hcl hlen
              go_wp2_with (fail)
              go_meet
              exact ⟨by rw [HS2.out], rfl⟩
            · have HS2 := hid (show S = !((ob x).toList == [32]) by rw [ob_eq, ← HS.out]; simp)
              simp only [List.length_cons] at hlen
              have h1 : (en : Int) < M := by omega
              obtain ⟨g', hgg, _, cg', _⟩ := own_op HOW.out en (by simp; omega)
              simp only [Option.some.injEq, Addr.mk.injEq, and_true] at hgg
              subst hgg
              have ee : (P ++ o :: R)[en]'(by simp; omega) = x := by
                have : (P ++ o :: R)[en]? = some x := by rw [HRR.out, hen, ← List.append_assoc, List.getElem?_append_right (by simp)]; simp
                rw [List.getElem?_eq_getElem (by simp; omega)] at this
                exact Option.some.inj this
              rw [ee] at cg'
              clear ee hen hrm hcl hlen
              go_wp2_with (fail)
              go_meet
              exact ⟨by rw [HS2.out], rfl⟩
          case rest =>
            obtain ⟨rfl, rfl⟩ := hcut
            cases hSS : S with
            | true =>
              rcases rest with _ | ⟨x, rest⟩
              · have := HS.out.trans hSS; cases this
              · have hx : x ≠ 32 := of_decide_eq_true (HS.out.trans hSS)
                simp only [List.length_cons] at hlen
                have h1 : (en : Int) < M := by omega
                obtain ⟨g', hgg, _, cg', _⟩ := own_op HOW.out en (by simp; omega)
                simp only [Option.some.injEq, Addr.mk.injEq, and_true] at hgg
                subst hgg
                have ee : (P ++ o :: R)[en]'(by simp; omega) = x := by
                  have : (P ++ o :: R)[en]? = some x := by rw [HRR.out, hen, ← List.append_assoc, List.getElem?_append_right (by simp)]; simp
                  rw [List.getElem?_eq_getElem (by simp; omega)] at this
                  exact Option.some.inj this
                rw [ee] at cg'
                have HR2 := hid (show o :: R = (run ++ [x]) ++ rest by rw [HRR.out]; simp)
                have HU2 := hid (show ∀ y ∈ run ++ [x], y ≠ 32 by
                  intro y hy
                  rcases List.mem_append.1 hy with hy | hy
                  · exact HRUN.out y hy
                  · rw [List.mem_singleton.1 hy]; exact hx)
                clear ee hSS HS hx hen hrm hcl hlen
                by_cases h45 : x = 45
                · have hob2 : ((ob x).toList == [45]) = true := by rw [ob_eq]; exact decide_eq_true h45
                  have HC := hid (show rm + 1 = (run ++ [x]).count 45 by rw [h45, HRM.out]; simp)
                  clear h45
                  go_wp2_with (fail)
                  go_roundg rest.length
                  case measure => simp
                  case rel => exact ⟨run ++ [x], rest, en + 1, rm + 1, rfl, HR2.out, HU2.out, by have := HEN.out; simp; omega, HC.out, by go_num, by go_num, rfl⟩
                · have hob2 : ((ob x).toList == [45]) = false := by rw [ob_eq]; exact decide_eq_false h45
                  have HC := hid (show rm = (run ++ [x]).count 45 by rw [HRM.out]; simp [h45])
                  clear h45
                  go_wp2_with (fail)
                  go_roundg rest.length
                  case measure => simp
                  case rel => exact ⟨run ++ [x], rest, en + 1, rm, rfl, HR2.out, HU2.out, by have := HEN.out; simp; omega, HC.out, by go_num, rfl, rfl⟩
            | false =>
              have hrest : rest = [] ∨ ∃ t, rest = 32 :: t := by
                rcases rest with _ | ⟨x, rest⟩
                · exact .inl rfl
                · right
                  have := of_decide_eq_false (HS.out.trans hSS)
                  exact ⟨rest, by simp at this; rw [this]⟩
              have hpos : 0 < run.length := by
                rcases run with _ | ⟨y, run⟩
                · exfalso
                  have h1 := HRR.out
                  simp only [List.nil_append] at h1
                  rcases hrest with h | ⟨t, h⟩
                  · rw [h] at h1; cases h1
                  · rw [h] at h1; injection h1 with h2 _; exact ho h2
                · simp
              have HN2 := hid (show (P ++ My.laidRun run) ++ norm rest 0 0 = norm ops 0 0 by rw [← HNO.out, HRR.out, My.norm_laid run rest HRUN.out hrest]; simp)
              have HO0 := hid (show wr.ownsRow w.heap.size 31 1 (.slice (some ⟨g, 0, none⟩) M c1) M ((P ++ ((My.laidRun run).take 0 ++ (run.drop 0 ++ rest))).map opV) by have := HOW.out; rw [HRR.out] at this; simpa using this)
              have HLEN := hid hlen
              have HCL := hid hcl
              have n3 : P.length < en := by omega
              clear hSS HS hrest HOW HNO cg fg hob hen hrm hlen hcl hpos
              go_wp2_with (fail)
              go_loopg [9] run.length (fun gm iv wr' => ∃ u q : Nat, gm = run.length - u ∧ u ≤ run.length ∧ q = P.length + u ∧ iv = .int .i64 q ∧ wr'.ownsRow w.heap.size 31 1 (.slice (some ⟨g, 0, none⟩) M c1) M ((P ++ ((My.laidRun run).take u ++ (run.drop u ++ rest))).map opV) ∧ Below w.heap.size w wr')
              case atStart => exact ⟨0, P.length, rfl, by omega, rfl, rfl, HO0.out, HB.out⟩
              case round =>
                clear HO0 HB
                obtain ⟨u, q, rfl, hu, hq, rfl, hown, hB⟩ := hrel
                have HOW := hid hown
                have HB := hid hB
                have HQ := hid hq
                have hen := HEN.out
                have hrm := HRM.out
                have hlen := HLEN.out
                have hll := My.laidRun_length run
                clear hown hB
                by_cases hlt : u < run.length
                · obtain ⟨g', hgg, _, cg', fg'⟩ := own_op HOW.out q (by simp; omega)
                  simp only [Option.some.injEq, Addr.mk.injEq, and_true] at hgg
                  subst hgg
                  have hlt1 : (q : Int) < (en : Int) := by omega
                  have hlt2 : (q : Int) < M := by omega
                  have hst1 := HOW.out.stored q (opV 43)
                  have HS1 := hid hst1
                  have c2 := own_op (cur := (P ++ ((My.laidRun run).take u ++ (run.drop u ++ rest))).set q 43) (by rw [List.map_set]; exact hst1.1) q (by simp; omega)
                  obtain ⟨g', hgg, _, c2, f2⟩ := c2
                  simp only [Option.some.injEq, Addr.mk.injEq, and_true] at hgg
                  subst hgg
                  have HS2 := hid (hst1.1.stored q (opV 45))
                  have HG := hid (laid_get run u hlt)
                  have HLS := hid (laid_set P run rest u hlt)
                  clear hst1
                  generalize (P ++ ((My.laidRun run).take u ++ (run.drop u ++ rest)))[q]'(by simp; omega) = old at *
                  generalize ((P ++ ((My.laidRun run).take u ++ (run.drop u ++ rest))).set q 43)[q]'(by simp; omega) = old2 at *
                  by_cases hc : u < run.count 45
                  · have hc1 : (q : Int) < (P.length : Int) + (rm : Nat) := by omega
                    clear hq hen hrm hlen hll
                    go_wp2_with (fail)
                    go_roundg (run.length - (u + 1))
                    case measure => omega
                    case rel =>
                      refine ⟨u + 1, q + 1, rfl, by omega, by have := HQ.out; omega, by go_num, ?_, (HB.out.setCell hBg _).setCell hBg _⟩
                      have h1 := HS2.out.1
                      rw [List.set_set] at h1
                      rw [← HLS.out 45 (by rw [HG.out, if_pos hc]), ← HQ.out]
                      exact h1
                  · have hc1 : ¬ (q : Int) < (P.length : Int) + (rm : Nat) := by omega
                    clear hq hen hrm hlen hll
                    go_wp2_with (fail)
                    go_roundg (run.length - (u + 1))
                    case measure => omega
                    case rel =>
                      refine ⟨u + 1, q + 1, rfl, by omega, by have := HQ.out; omega, by go_num, ?_, HB.out.setCell hBg _⟩
                      rw [← HLS.out 43 (by rw [HG.out, if_neg hc]), ← HQ.out]
                      exact HS1.out.1
                · obtain rfl : u = run.length := by omega
                  have hlt1 : ¬ (q : Int) < (en : Int) := by omega
                  have HO3 := hid (show wr.ownsRow w.heap.size 31 1 (.slice (some ⟨g, 0, none⟩) M c1) M (((P ++ My.laidRun run) ++ rest).map opV) by
                    have := HOW.out
                    rw [← hll, List.take_length, hll, List.drop_length] at this
                    simpa using this)
                  have HLL := hid hll
                  clear hq hen hrm hlen hll
                  go_wp2_with (fail)
                  have hll := HLL.out
                  have hen := HEN.out
                  have hlen := HLEN.out
                  go_roundg (M - en)
                  case measure => omega
                  case rel => exact ⟨P ++ My.laidRun run, rest, by simp; omega, by simp; omega, by simp; omega, HN2.out, HO3.out, HB.out⟩
end Go.Proofs.Qxb6602717a
