/-
  THE WALK OF THE LAW FnLinesCommonPrefixShifts.
-/
import Derived.Test.Qxb6602717aW1
import Derived.Test.Qxb6602717aW6
namespace Go.Proofs.Qxb6602717a
open Go.RowKit
open My (linesOf)

def RetT (w : World) (e : Ending) (w' : World) : Prop := e = .returned (.bool true) ∧ Below w.heap.size w w'

theorem owns_val {w : World} {base : Nat} {e : TypeId} {v : Value} {n : Nat} {ss : List ByteArray} (h : w.ownsRow base e 1 v n (ss.map Value.string)) :
    ∃ a cap, v = .slice a n cap ∧ ss.length = n ∧ n ≤ cap ∧ cap ≤ maxLen ∧ SAt w a ss := by
  have hl : ss.length = n := by have := h.1; simpa using this
  subst hl
  obtain ⟨a, cap, hv, hc, hs⟩ := owns_SAt h
  refine ⟨a, cap, hv, rfl, ?_, hc, hs⟩
  rcases h.2 with ⟨hv2, hn⟩ | ⟨g, cap', cur, hv2, _, _, hnc, _⟩
  · omega
  · rw [hv] at hv2; simp only [Value.slice.injEq, true_and] at hv2; omega

theorem lines_n (a b : Option Addr) (ca cbb n m : Nat) (aa bb : List ByteArray) (w : World) (hn : aa.length = n) (hm : bb.length = m) (hla : n ≤ 8192) (hlb : m ≤ 8192) (hca : n ≤ ca) (hcb : m ≤ cbb) (hma : ca ≤ maxLen) (hmb : cbb ≤ maxLen) (ha : SAt w a aa) (hb : SAt w b bb) :
    Calls Try.prog 18 #[.slice a n ca, .slice b m cbb] w (Lns w (linesOf aa bb)) := by
  subst hn hm; exact lines_any a b ca cbb aa bb w hla hlb hca hcb hma hmb ha hb

theorem str_one (ss : List ByteArray) : ∀ u ∈ ss.map Value.string, u.oneCell' = true := by
  intro u hu
  obtain ⟨c, _, rfl⟩ := List.mem_map.1 hu
  rfl

/-- 'make([]string, 0, c)' as a law of the walk. -/
theorem wpList_make0 (w : World) {ops : Array Oper} {rest : List Oper} {o : Oper} {a : Act} {Q : Exit → Act → World → Prop} (hg : o.guard = none) (l c : Operand) (hop : o.op = Op.makeSlice 22 l c) (C : Int) (n : Nat) (hl : a.eval l = .int .i64 0) (hc : a.eval c = .int .i64 C) (hC : C = (n : Int)) (hn : n ≤ 65536)
    (hK : ∀ w', w'.ownsRow w.heap.size 9 1 (.slice (some ⟨w.heap.size, 0, none⟩) 0 n) 0 ([].map Value.string) → Below w.heap.size w w' → wpList Try.prog ops Q rest (a.put o.dst (.slice (some ⟨w.heap.size, 0, none⟩) 0 n)) w') : wpList Try.prog ops Q (o :: rest) a w := by
  obtain ⟨i, hi, hzz⟩ := Option.map_eq_some_iff.1 Try.info9
  simp only [Prod.mk.injEq] at hzz
  obtain ⟨hz, hs, hb⟩ := hzz
  exact wpList_make_own w hg l c 22 hop w.heap.size 9 i _ 1 Try.underlying22 hi hz hs .i64 .i64 C n hl hc hC (by rw [hb]; omega) (by simp [maxLen]; omega) (Nat.le_refl _) (fun w' h1 h2 => hK w' h1 ((Below.refl _ w).grown h2 (Nat.le_refl _) (fun k hk => by cases hk)))

/-- 'append(x, y...)' of strings, x a row of the call's own. -/
theorem wpList_apps {w : World} {ops : Array Oper} {rest : List Oper} {o : Oper} {a : Act} {Q : Exit → Act → World → Prop} (hgd : o.guard = none) (s x : Operand)
    (ho : o.op = .call { callee := .builtin .append, args := #[s, x], argTypes := #[22, 22] }) (base : Nat) (v u : Value) (n : Nat) (xs ys : List ByteArray) (hs : a.eval s = v) (hx : a.eval x = u) (hown : w.ownsRow base 9 1 v n (xs.map Value.string)) (hsrc : Src w u (ys.map Value.string)) (hlen : n + ys.length ≤ 65536) (hbase : base ≤ w.heap.size)
    (h : ∀ v' w', w'.ownsRow base 9 1 v' (n + ys.length) ((xs ++ ys).map Value.string) → Below base w w' → wpList Try.prog ops Q rest (a.put o.dst v') w') : wpList Try.prog ops Q (o :: rest) a w := by
  refine wpList_append1 hgd s x 22 ho base 9 (.string ⟨#[]⟩) 16 Try.underlying22 Try.info9 rfl v n _ hs hown u _ hx hsrc (str_one ys) ?_ ?_ hbase (fun v' w' h1 h2 => h v' w' ?_ ((Below.refl _ w).grown h2 hbase (fun k hk => (hown.lt k hk).1)))
  · simp [maxLen]; omega
  · simp; omega
  · simpa using h1

/-- The cells of line t. -/
theorem Blk.line {w : World} {g : Nat} {L : List (UInt8 × Nat × Nat)} (h : Blk w g 37 (L.flatMap lineCells)) (t : Nat) (q : UInt8 × Nat × Nat) (hq : L[t]? = some q) :
    w.cell? ⟨g, t * 3, none⟩ = some (.string (ob q.1)) ∧ w.cell? ⟨g, t * 3 + 1, none⟩ = some (.int .i64 q.2.1) ∧ w.cell? ⟨g, t * 3 + 2, none⟩ = some (.int .i64 q.2.2) := by
  have hl := flat_length L
  have ht : t < L.length := (List.getElem?_eq_some_iff.1 hq).1
  have key : ∀ i, i < 3 → (L.flatMap lineCells)[t * 3 + i]? = (lineCells q)[i]? := by
    clear h hl ht
    intro i hi
    induction L generalizing t with
    | nil => simp at hq
    | cons x L ih =>
      rw [List.flatMap_cons]
      cases t with
      | zero =>
        simp at hq; subst hq
        rw [List.getElem?_append_left (by simp [lineCells]; omega)]; congr 1; omega
      | succ t =>
        rw [List.getElem?_append_right (by simp [lineCells]; omega)]
        have e : (t + 1) * 3 + i - (lineCells x).length = t * 3 + i := by simp [lineCells]; omega
        rw [e]; exact ih t (by simpa using hq)
  have get : ∀ i v, i < 3 → (lineCells q)[i]? = some v → w.cell? ⟨g, t * 3 + i, none⟩ = some v := by
    intro i v hi hv
    have := key i hi
    rw [hv, List.getElem?_eq_getElem (by rw [hl]; omega)] at this
    rw [h.cell _ (by rw [hl]; omega), this]
  exact ⟨get 0 _ (by omega) rfl, get 1 _ (by omega) rfl, get 2 _ (by omega) rfl⟩

theorem number_le (l : List UInt8) (t : Nat) (q : UInt8 × Nat × Nat) (h : (My.number l 0 0)[t]? = some q) : q.2.1 ≤ l.length ∧ q.2.2 ≤ l.length := by
  rw [number_get] at h
  obtain ⟨o, ho, rfl⟩ := Option.map_eq_some_iff.1 h
  have h1 : cntA (l.take t) ≤ (l.take t).length := List.countP_le_length
  have h2 : cntB (l.take t) ≤ (l.take t).length := List.countP_le_length
  have h3 := List.length_take_le t l
  have h4 : (l.take t).length ≤ l.length := by rw [List.length_take]; omega
  simp only [Nat.zero_add]
  omega

theorem lines_bound (aa bb : List ByteArray) : (linesOf aa bb).length ≤ 2 * (aa.length + bb.length) ∧ ∀ (t : Nat) (q : UInt8 × Nat × Nat), (linesOf aa bb)[t]? = some q → q.2.1 ≤ 2 * (aa.length + bb.length) ∧ q.2.2 ≤ 2 * (aa.length + bb.length) := by
  have h1 := script_len aa bb
  have h2 := My.norm_length (My.scriptOps aa bb) 0 0
  unfold My.linesOf
  refine ⟨by rw [My.number_length, h2]; omega, fun t q hq => ?_⟩
  have := number_le _ t q hq
  omega

set_option maxHeartbeats 4000000 in
set_option maxRecDepth 100000 in
theorem shifts_any (a0 a1 a2 : Option Addr) (c0 c1 c2 : Nat) (pp aa bb : List ByteArray) (w : World) (hm0 : pp.length ≤ maxLen) (hm1 : aa.length ≤ maxLen) (hm2 : bb.length ≤ maxLen)
    (hs0 : ∀ s ∈ pp, s.size ≤ maxLen) (hs1 : ∀ s ∈ aa, s.size ≤ maxLen) (hs2 : ∀ s ∈ bb, s.size ≤ maxLen) (ha0 : SAt w a0 pp) (ha1 : SAt w a1 aa) (ha2 : SAt w a2 bb)
    (hn0 : a0 = none → pp = [] ∧ c0 = 0) (hn1 : a1 = none → aa = [] ∧ c1 = 0) (hn2 : a2 = none → bb = [] ∧ c2 = 0) :
    Calls Try.prog 6 #[.slice a0 pp.length c0, .slice a1 aa.length c1, .slice a2 bb.length c2] w (RetT w) := by
  have HBY := hid (bytes3_any a0 a1 a2 c0 c1 c2 pp aa bb w hm0 hm1 hm2 hs0 hs1 hs2 ha0 ha1 ha2)
  have H0 := hid ha0
  have H1 := hid ha1
  have H2 := hid ha2
  have HS0 := hid hs0
  have HS1 := hid hs1
  have HS2 := hid hs2
  have HN0 := hid hn0
  have HN1 := hid hn1
  have HN2 := hid hn2
  unfold maxLen at hm0 hm1 hm2
  clear ha0 ha1 ha2 hs0 hs1 hs2 hn0 hn1 hn2
  go_enter Try.func6, Try.ntmps6
  go_wp2_with (fail)
  refine HBY.out.mono ?_
  rintro e w' ⟨b, rfl, rfl⟩
  clear HBY
  cases b with
  | false =>
    go_wp2_with (fail)
    go_ret
    exact ⟨rfl, Below.refl _ _⟩
  | true =>
    by_cases h4 : pp.length ≤ 4096 ∧ aa.length ≤ 4096 ∧ bb.length ≤ 4096
    · obtain ⟨l0, l1, l2⟩ := h4
      go_wp2_with (fail)
      refine (addBytes_any 0 a0 c0 pp w (by omega) (by omega) (by omega) HS0.out H0.out).mono ?_
      rintro e w' ⟨t1, b1, t10, t11, rfl, rfl⟩
      cases b1 with
      | false =>
        go_wp2_with (fail)
        go_ret
        exact ⟨rfl, Below.refl _ _⟩
      | true =>
        go_wp2_with (fail)
        refine (addBytes_any t1 a1 c1 aa w t10 t11 (by omega) HS1.out H1.out).mono ?_
        rintro e w' ⟨t2, b2, t20, t21, rfl, rfl⟩
        cases b2 with
        | false =>
          go_wp2_with (fail)
          go_ret
          exact ⟨rfl, Below.refl _ _⟩
        | true =>
          go_wp2_with (fail)
          refine (addBytes_any t2 a2 c2 bb w t20 t21 (by omega) HS2.out H2.out).mono ?_
          rintro e w' ⟨t3, b3, t30, t31, rfl, rfl⟩
          cases b3 with
          | false =>
            go_wp2_with (fail)
            go_ret
            exact ⟨rfl, Below.refl _ _⟩
          | true =>
            go_wp2_with (fail)
            refine (clone_any a0 c0 pp w HN0.out (by omega) H0.out).mono ?_
            rintro e w1 ⟨v1, rfl, ho1, hb1⟩
            have HO1 := hid ho1
            have HB1 := hid hb1
            have z1 := hb1.size
            obtain ⟨p1, d1, rfl⟩ := own_form ho1
            clear ho1 hb1
            go_wp2_with (fail)
            refine (clone_any a1 c1 aa w1 HN1.out (by omega) (H1.out.below HB1.out)).mono ?_
            rintro e w2 ⟨v2, rfl, ho2, hb2⟩
            have HO2 := hid ho2
            have HB2 := hid hb2
            have z2 := hb2.size
            obtain ⟨p2, d2, rfl⟩ := own_form ho2
            clear ho2 hb2
            go_wp2_with (fail)
            refine (clone_any a2 c2 bb w2 HN2.out (by omega) ((H2.out.below HB1.out).below HB2.out)).mono ?_
            rintro e w3 ⟨v3, rfl, ho3, hb3⟩
            have HO3 := hid ho3
            have HB3 := hid hb3
            have z3 := hb3.size
            obtain ⟨p3, d3, rfl⟩ := own_form ho3
            clear ho3 hb3
            have HP3 := hid (show w3.ownsRow w.heap.size 9 1 (.slice p1 pp.length d1) pp.length (pp.map Value.string) from ownsRow_below (ownsRow_below HO1.out HB2.out (Nat.le_refl _)) HB3.out (Nat.le_refl _))
            have HA3 := hid (show w3.ownsRow w.heap.size 9 1 (.slice p2 aa.length d2) aa.length (aa.map Value.string) from ownsRow_base (ownsRow_below HO2.out HB3.out (Nat.le_refl _)) (by omega))
            have HB30 := hid (show w3.ownsRow w.heap.size 9 1 (.slice p3 bb.length d3) bb.length (bb.map Value.string) from ownsRow_base HO3.out (by omega))
            have HW3 := hid (show Below w.heap.size w w3 from HB1.out.trans ((HB2.out.mono (by omega)).trans (HB3.out.mono (by omega))))
            clear HO1 HO2 HO3 HB1 HB2 HB3 H0 H1 H2 HN0 HN1 HN2 HS0 HS1 HS2
            have zw3 : w.heap.size ≤ w3.heap.size := by omega
            clear z1 z2 z3
            go_wp2_with (first
              | (at_make; refine wpList_make0 _ rfl (.const (.int .i64 0)) (.tmp 70) rfl _ (pp.length + aa.length) rfl rfl (by omega) (by omega) ?_; intro w4 ho4 hb4; have HO4 := hid ho4; have HB4 := hid hb4; have z4 := hb4.size; clear ho4 hb4)
              | (at_builtin; refine wpList_apps rfl (.tmp 72) (.tmp 73) rfl w3.heap.size _ _ 0 [] pp rfl rfl HO4.out (owns_Src (ownsRow_below HP3.out HB4.out (Nat.le_refl _))) (by omega) z4 ?_; intro v5 w5 ho5 hb5; have HO5 := hid ho5; have HB5 := hid (HB4.out.trans hb5); have z5 := (HB4.out.trans hb5).size; clear ho5 hb5)
              | (at_builtin; refine wpList_apps rfl (.tmp 75) (.tmp 76) rfl w3.heap.size _ _ (0 + pp.length) ([] ++ pp) aa rfl rfl HO5.out (owns_Src (ownsRow_below HA3.out HB5.out (Nat.le_refl _))) (by omega) z5 ?_; intro v6 w6 ho6 hb6; have HO6 := hid ho6; have HB6 := hid (HB5.out.trans hb6); have z6 := (HB5.out.trans hb6).size; clear ho6 hb6)
              | (at_make; refine wpList_make0 _ rfl (.const (.int .i64 0)) (.tmp 82) rfl _ (pp.length + bb.length) rfl rfl (by omega) (by omega) ?_; intro w7 ho7 hb7; have HO7 := hid ho7; have HB7 := hid hb7; have z7 := hb7.size; clear ho7 hb7)
              | (at_builtin; refine wpList_apps rfl (.tmp 84) (.tmp 85) rfl w6.heap.size _ _ 0 [] pp rfl rfl HO7.out (owns_Src (ownsRow_below (ownsRow_below HP3.out HB6.out (Nat.le_refl _)) HB7.out (Nat.le_refl _))) (by omega) z7 ?_; intro v8 w8 ho8 hb8; have HO8 := hid ho8; have HB8 := hid (HB7.out.trans hb8); have z8 := (HB7.out.trans hb8).size; clear ho8 hb8)
              | (at_builtin; refine wpList_apps rfl (.tmp 87) (.tmp 88) rfl w6.heap.size _ _ (0 + pp.length) ([] ++ pp) bb rfl rfl HO8.out (owns_Src (ownsRow_below (ownsRow_below HB30.out HB6.out (Nat.le_refl _)) HB8.out (Nat.le_refl _))) (by omega) z8 ?_; intro v9 w9 ho9 hb9; have HO9 := hid ho9; have HB9 := hid (HB8.out.trans hb9); have z9 := (HB8.out.trans hb9).size; clear ho9 hb9))
            have hO6 := ownsRow_below HO6.out HB9.out (Nat.le_refl _)
            have hO9 := HO9.out
            simp only [List.nil_append, Nat.zero_add] at hO6 hO9
            obtain ⟨pa, cpa, rfl, hpa1, hpa2, hpa3, hpa4⟩ := owns_val hO6
            obtain ⟨pb, cpb, rfl, hpb1, hpb2, hpb3, hpb4⟩ := owns_val hO9
            obtain ⟨pa2, cpa2, hv2, _, q2, q3, q4⟩ := owns_val (ownsRow_below (ownsRow_below HA3.out HB6.out (Nat.le_refl _)) HB9.out (Nat.le_refl _))
            obtain ⟨pb2, cpb2, hv3, _, r2, r3, r4⟩ := owns_val (ownsRow_below (ownsRow_below HB30.out HB6.out (Nat.le_refl _)) HB9.out (Nat.le_refl _))
            simp only [Value.slice.injEq, true_and] at hv2 hv3
            obtain ⟨rfl, rfl⟩ := hv2
            obtain ⟨rfl, rfl⟩ := hv3
            have HW9 := hid (show Below w.heap.size w w9 from HW3.out.trans ((HB6.out.mono (by omega)).trans (HB9.out.mono (by omega))))
            have z39 : w.heap.size ≤ w9.heap.size := HW9.out.size
            refine (lines_n pa pb cpa cpb _ _ (pp ++ aa) (pp ++ bb) w9 hpa1 hpb1 (by omega) (by omega) hpa2 hpb2 hpa3 hpb3 hpa4 hpb4).mono ?_
            rintro e w10 ⟨g1, rfl, hg1, hk1, hb10⟩
            have HK1 := hid hk1
            have HB10 := hid hb10
            have z10 := hb10.size
            have HL2 := hid (lines_n p2 p3 d2 d3 _ _ aa bb w10 rfl rfl (by omega) (by omega) q2 r2 q3 r3 (q4.below hb10) (r4.below hb10))
            have HLA := hid (My.linesOf_append pp aa bb)
            have HLB := hid (lines_bound aa bb)
            have hlb := (lines_bound aa bb).1
            generalize linesOf (pp ++ aa) (pp ++ bb) = LW at *
            clear hk1 hb10 hO6 hO9 hpa1 hpa2 hpa3 hpa4 hpb1 hpb2 hpb3 hpb4 q2 q3 q4 r2 r3 r4 HO4 HO5 HO6 HO7 HO8 HO9 HB4 HB5 HB6 HB7 HB8 HB9 z4 z5 z6 z7 z8 z9 HP3 HA3 HB30 HW3
            go_wp2_with (fail)
            refine HL2.out.mono ?_
            rintro e w11 ⟨g2, rfl, hg2, hk2, hb11⟩
            clear HL2
            generalize linesOf aa bb = LP at *
            have hlw : LW.length = pp.length + LP.length := by rw [HLA.out]; simp
            have HK2 := hid hk2
            have z11 := hb11.size
            have HK1' := hid (HK1.out.below hb11 (HK1.out.lt))
            have HW := hid (show Below w.heap.size w w11 from HW9.out.trans ((HB10.out.mono (by omega)).trans (hb11.mono (by omega))))
            have HLW1 := hid (show ∀ t, t < pp.length → LW[t]? = some (32, t, t) by
              intro t ht
              rw [HLA.out, List.getElem?_append_left (by simpa using ht), List.getElem?_map, List.getElem?_range ht]; rfl)
            have HLW2 := hid (show ∀ t q, LP[t]? = some q → LW[pp.length + t]? = some (q.1, q.2.1 + pp.length, q.2.2 + pp.length) by
              intro t q hq
              rw [HLA.out, List.getElem?_append_right (by simp), List.getElem?_map]
              simp [hq])
            obtain ⟨M1, hM1⟩ : ∃ M1, LW.length = M1 := ⟨_, rfl⟩
            obtain ⟨M2, hM2'⟩ : ∃ M2, LP.length = M2 := ⟨_, rfl⟩
            have HM1 := hid hM1
            have HM2 := hid hM2'
            rw [hM1, hM2'] at hlw
            rw [hM2'] at hlb
            rw [hM1, hM2']
            have heq : (!((M1 : Int) == (pp.length : Int) + M2)) = false := by simp; omega
            have m1 : pp.length + M2 ≤ M1 := by omega
            have m2 : M1 ≤ pp.length + M2 := by omega
            clear hk2 hb11 HK1 HB10 HLA hM1 hM2' hlw HW9
            go_wp2_with (fail)
            clear heq
            have k32 : ((ob 32).toList == [32]) = true := by rw [ob_eq]; rfl
            go_loopg [14] pp.length (fun gm tv wr => ∃ t : Nat, gm = pp.length - t ∧ t ≤ pp.length ∧ tv = .int .i64 t ∧ Below w11.heap.size w11 wr)
            case atStart => exact ⟨0, rfl, by omega, rfl, Below.refl _ _⟩
            case round =>
              obtain ⟨t, rfl, ht, rfl, hB⟩ := hrel
              have HB := hid hB
              by_cases hlt : t < pp.length
              · obtain ⟨x0, x1, x2⟩ := (HK1'.out.below hB HK1'.out.lt).line t _ (HLW1.out t hlt)
                simp only at x0 x1 x2
                have hlt1 : (t : Int) < pp.length := by omega
                have hlt2 : (t : Int) < M1 := by omega
                clear hB
                go_wp2_with (fail)
                go_roundg (pp.length - (t + 1))
                case measure => omega
                case rel => exact ⟨t + 1, rfl, by omega, by go_num, HB.out.alloc HB.out.size _⟩
              · have hlt1 : ¬ (t : Int) < pp.length := by omega
                clear hB
                go_wp2_with (fail)
                clear k32
                go_loopg [16] M2 (fun gm tv wr => ∃ t : Nat, gm = M2 - t ∧ t ≤ M2 ∧ tv = .int .i64 t ∧ Below w11.heap.size w11 wr)
                case atStart => exact ⟨0, rfl, by omega, rfl, HB.out⟩
                case round =>
                  clear HB
                  obtain ⟨t, rfl, ht, rfl, hB⟩ := hrel
                  have HB := hid hB
                  by_cases hlt : t < M2
                  · have hlp : t < LP.length := by rw [HM2.out]; exact hlt
                    obtain ⟨⟨o, i, j⟩, hq⟩ : ∃ q, LP[t]? = some q := ⟨LP[t], List.getElem?_eq_getElem hlp⟩
                    obtain ⟨x0, x1, x2⟩ := (HK1'.out.below hB HK1'.out.lt).line _ _ (HLW2.out t _ hq)
                    have y0 := fun ob' => (((HK2.out.below hB HK2.out.lt).alloc ob').line t _ hq).1
                    have y1 := fun ob' => (((HK2.out.below hB HK2.out.lt).alloc ob').line t _ hq).2.1
                    have y2 := fun ob' => (((HK2.out.below hB HK2.out.lt).alloc ob').line t _ hq).2.2
                    have hbd := HLB.out.2 t _ hq
                    simp only at x0 x1 x2 y0 y1 y2 hbd
                    obtain ⟨hbd1, hbd2⟩ := hbd
                    have hlt1 : (t : Int) < M2 := by omega
                    have hlt2 : (pp.length : Int) + t < M1 := by omega
                    clear hB hq hlp
                    have kk : ((ob o).toList == (ob o).toList) = true := by simp
                    go_wp2_with (fail)
                    go_roundg (M2 - (t + 1))
                    case measure => omega
                    case rel => exact ⟨t + 1, rfl, by omega, by go_num, (HB.out.alloc HB.out.size _).alloc (by have := HB.out.size; simp; omega) _⟩
                  · have hlt1 : ¬ (t : Int) < M2 := by omega
                    clear hB
                    go_wp2_with (fail)
                    go_ret
                    exact ⟨rfl, HW.out.trans (HB.out.mono HW.out.size)⟩
    · have hnl : ¬ pp.length ≤ 4096 ∨ (pp.length ≤ 4096 ∧ ¬ aa.length ≤ 4096) ∨ (pp.length ≤ 4096 ∧ aa.length ≤ 4096 ∧ ¬ bb.length ≤ 4096) := by omega
      clear h4
      rcases hnl with h | ⟨h, h'⟩ | ⟨h, h', h''⟩
      all_goals
        go_wp2_with (fail)
        go_ret
        exact ⟨rfl, Below.refl _ _⟩
end Go.Proofs.Qxb6602717a
