/-
  THE WALK OF 'shortest'.
-/
import Derived.Test.Qxb6603052aW4
namespace Go.Proofs.Qxb6603052a
open Go.RowKit
open My (F D L Vd sn back shortestOps play same eqAt)

theorem owns_get {w : World} {B : Nat} {e : TypeId} {v : Value} {n : Nat} {xs : List Value} (h : w.ownsRow B e 1 v n xs) (hn : 0 < n) : ∃ g c, v = .slice (some ⟨g, 0, none⟩) n c ∧ ∀ i u, xs[i]? = some u → w.cell? ⟨g, i, none⟩ = some u := by
  rcases h.2 with ⟨_, e⟩ | ⟨g, cap, cur, rfl, _⟩
  · omega
  · refine ⟨g, cap, rfl, fun i u hu => ?_⟩
    have := h.cells (g := g) rfl i u hu
    rwa [Addr.add_lit, Nat.zero_add] at this

theorem own_form {w : World} {B : Nat} {e : TypeId} {s : Nat} {v : Value} {n : Nat} {xs : List Value} (h : w.ownsRow B e s v n xs) : ∃ a c, v = .slice a n c := by
  rcases h.2 with ⟨rfl, rfl⟩ | ⟨g, cap, cur, rfl, _⟩
  · exact ⟨_, _, rfl⟩
  · exact ⟨_, _, rfl⟩

theorem Try.info38 : (Try.prog.info? 38).map (fun i => (i.zero, i.size, i.bytes)) = some (some (.slice none 0 0), 1, 24) := by kernel_rfl
theorem Try.info3' : (Try.prog.info? 3).map (fun i => (i.zero, i.size, i.bytes)) = some (some (.int .i64 0), 1, 8) := by kernel_rfl
theorem Try.underlying41' : Try.prog.underlying 41 = some (.slice 38) := by kernel_rfl
theorem Try.underlying38' : Try.prog.underlying 38 = some (.slice 3) := by kernel_rfl

section
variable (aa bb : List ByteArray)

/-- In round d, the diagonals below k done. -/
structure RK (d : Nat) (k : Int) (r : Nat → Int) : Prop where
  cur : ∀ k', Vd d k' → k' < k → r (k' + d).toNat = F aa bb d k'
  not : ∀ k', Vd d k' → k' < k → ¬ (F aa bb d k' = (aa.length : Int) ∧ F aa bb d k' - k' = bb.length)

theorem RK.start (d : Nat) (r : Nat → Int) : RK aa bb d (-(d : Int)) r := ⟨fun k' hv hlt => by unfold Vd at hv; omega, fun k' hv hlt => by unfold Vd at hv; omega⟩

theorem RK.step {d : Nat} {k : Int} {r : Nat → Int} (h : RK aa bb d k r) (hv : Vd d k) (hn : ¬ (F aa bb d k = (aa.length : Int) ∧ F aa bb d k - k = bb.length)) :
    RK aa bb d (k + 2) (fun i => if i = (k + d).toNat then F aa bb d k else r i) := by
  refine ⟨fun k' hv' hlt => ?_, fun k' hv' hlt => ?_⟩
  · by_cases e : k' = k
    · subst e; rw [if_pos rfl]
    · unfold Vd at hv hv'
      rw [if_neg (by omega)]
      exact h.cur k' hv' (by omega)
  · by_cases e : k' = k
    · subst e; exact hn
    · unfold Vd at hv hv'
      exact h.not k' hv' (by omega)

theorem RK.done {d : Nat} {k : Int} {r : Nat → Int} (h : RK aa bb d k r) (hk : (d : Int) < k) (hD : d ≤ D aa bb) : RowF aa bb d r ∧ d + 1 ≤ D aa bb := by
  refine ⟨fun k' hv => h.cur k' hv (by unfold Vd at hv; omega), ?_⟩
  by_cases e : d = D aa bb
  · exfalso
    have hv := My.Vd_D aa bb
    have hF := My.F_D aa bb
    rw [← e] at hv hF
    exact h.not _ hv (by unfold Vd at hv; omega) ⟨hF, by rw [hF]; omega⟩
  · omega

/-- 'furthest', d rows of it. -/
def Fur (w : World) (B : Nat) (v : Value) (d : Nat) : Prop :=
  ∃ rv : Nat → Value, w.ownsRow B 38 1 v d ((List.range d).map rv) ∧ ∀ i, i < d → ∃ r, RowF aa bb i r ∧ w.ownsRow B 3 1 (rv i) (2 * i + 1) (irow (2 * i + 1) r)

theorem Fur.nil (w : World) (B : Nat) : Fur aa bb w B (.slice none 0 0) 0 := ⟨fun _ => undef, World.ownsRow_nil _ _ _ _, fun i hi => by omega⟩

theorem Fur.below {w w' : World} {B : Nat} {v : Value} {d : Nat} (h : Fur aa bb w B v d) (hb : Below w.heap.size w w') : Fur aa bb w' B v d := by
  obtain ⟨rv, h1, h2⟩ := h
  refine ⟨rv, ownsRow_below h1 hb (Nat.le_refl _), fun i hi => ?_⟩
  obtain ⟨f, hf, ho⟩ := h2 i hi
  exact ⟨f, hf, ownsRow_below ho hb (Nat.le_refl _)⟩

theorem Fur.at {w : World} {B : Nat} {a : Option Addr} {c d n : Nat} (h : Fur aa bb w B (.slice a d c) d) (hd : 0 < d) (hn : n ≤ d) : ∃ gf, a = some ⟨gf, 0, none⟩ ∧ FurAt aa bb w gf n := by
  obtain ⟨rv, h1, h2⟩ := h
  obtain ⟨gf, c', hv, hc⟩ := owns_get h1 hd
  simp only [Value.slice.injEq, true_and] at hv
  obtain ⟨rfl, rfl⟩ := hv
  refine ⟨gf, rfl, fun i hi => ?_⟩
  obtain ⟨r, hr, ho⟩ := h2 i (by omega)
  obtain ⟨g, c', hv, hg⟩ := owns_get ho (by omega)
  refine ⟨g, c', r, ?_, fun j hj => hg j _ (irow_get _ _ _ hj), hr⟩
  rw [hc i (rv i) (by simp [show i < d by omega]), hv]

theorem Fur.step {w w' : World} {B : Nat} {v v' u : Value} {d : Nat} {f : Nat → Int} (h : Fur aa bb w B v d) (hf : RowF aa bb d f) (hu : w.ownsRow B 3 1 u (2 * d + 1) (irow (2 * d + 1) f))
    (hg : w.grownBy w' v.ownBlock) (hv : ∀ rv : Nat → Value, w.ownsRow B 38 1 v d ((List.range d).map rv) → w'.ownsRow B 38 1 v' (d + 1) ((List.range d).map rv ++ [u])) : Fur aa bb w' B v' (d + 1) := by
  obtain ⟨rv, h1, h2⟩ := h
  refine ⟨fun i => if i = d then u else rv i, ?_, fun i hi => ?_⟩
  · have h3 := hv rv h1
    have e : (List.range (d + 1)).map (fun i => if i = d then u else rv i) = (List.range d).map rv ++ [u] := by
      rw [List.range_succ, List.map_append]
      congr 1
      · apply List.map_congr_left
        intro i hi
        rw [if_neg (by have := List.mem_range.1 hi; omega)]
      · simp
    rw [e]; exact h3
  · by_cases e : i = d
    · subst e
      dsimp only
      rw [if_pos rfl]
      exact ⟨f, hf, hu.kept hg (own_ne hu h1 (by decide))⟩
    · dsimp only
      rw [if_neg e]
      obtain ⟨f', hf', ho⟩ := h2 i (by omega)
      exact ⟨f', hf', ho.kept hg (own_ne ho h1 (by decide))⟩
end

/-- 'append(furthest, row)'. -/
theorem wpList_fur {aa bb : List ByteArray} {w : World} {ops : Array Oper} {rest : List Oper} {o : Oper} {a : Act} {Q : Exit → Act → World → Prop} (hgd : o.guard = none) (s x : Operand)
    (ho : o.op = .call { callee := .builtin .append, args := #[s, x], argTypes := #[41, 41] }) (B d g NN : Nat) (v : Value) (f : Nat → Int) (hs : a.eval s = v) (hx : a.eval x = .slice (some ⟨w.heap.size, 0, none⟩) 1 1)
    (h : Fur aa bb w B v d) (hf : RowF aa bb d f) (hN : 2 * d + 1 = NN) (hB : B ≤ g) (hK : Blk w g 3 (irow NN f)) (hd : d ≤ 2000) (hbase : B ≤ w.heap.size)
    (hk : ∀ v' w', Fur aa bb w' B v' (d + 1) → Below B w w' → wpList Try.prog ops Q rest (a.put o.dst v') w') : wpList Try.prog ops Q (o :: rest) a (w.alloc (.cells #[.slice (some ⟨g, 0, none⟩) NN NN] 38)) := by
  have hA := (Below.refl _ w).alloc (Nat.le_refl _) (.cells #[.slice (some ⟨g, 0, none⟩) NN NN] 38)
  have hu : (w.alloc (.cells #[.slice (some ⟨g, 0, none⟩) NN NN] 38)).ownsRow B 3 1 (.slice (some ⟨g, 0, none⟩) NN NN) (2 * d + 1) (irow (2 * d + 1) f) := by
    have := (hK.alloc (.cells #[.slice (some ⟨g, 0, none⟩) NN NN] 38)).owns hB (by rw [irow_length]; simp [maxLen]; omega)
    rw [irow_length] at this
    rw [hN]; exact this
  obtain ⟨rv, h1, h2⟩ := Fur.below _ _ h hA
  refine wpList_append1 hgd s x 41 ho B 38 (.slice none 0 0) 24 Try.underlying41' Try.info38 rfl v d _ hs h1 _ [.slice (some ⟨g, 0, none⟩) NN NN] hx (.inr ⟨⟨w.heap.size, 0, none⟩, 1, rfl, cell_one_new _ _ _⟩) ?_ ?_ ?_ ?_ (fun v' w' h3 h4 => hk v' w' ?_ (((Below.refl _ w).alloc hbase _).grown h4 (by simp; omega) (fun k hk => (h1.lt k hk).1)))
  · intro u hu; rw [List.mem_singleton.1 hu]; rfl
  · simp [maxLen]; omega
  · simp; omega
  · simp; omega
  · refine ⟨fun i => if i = d then .slice (some ⟨g, 0, none⟩) NN NN else rv i, ?_, ?_⟩
    · have e : (List.range (d + 1)).map (fun i => if i = d then Value.slice (some ⟨g, 0, none⟩) NN NN else rv i) = (List.range d).map rv ++ [.slice (some ⟨g, 0, none⟩) NN NN] := by
        rw [List.range_succ, List.map_append]
        congr 1
        · apply List.map_congr_left
          intro i hi
          rw [if_neg (by have := List.mem_range.1 hi; omega)]
        · simp
      rw [e]; exact h3
    · intro i hi
      by_cases e : i = d
      · subst e
        dsimp only
        rw [if_pos rfl]
        exact ⟨f, hf, hu.kept h4 (own_ne hu h1 (by decide))⟩
      · dsimp only
        rw [if_neg e]
        obtain ⟨f', hf', ho'⟩ := h2 i (by omega)
        exact ⟨f', hf', ho'.kept h4 (own_ne ho' h1 (by decide))⟩

/-- 'append(furthest, row)', the last row not yet full. -/
theorem wpList_fur0 {aa bb : List ByteArray} {w : World} {ops : Array Oper} {rest : List Oper} {o : Oper} {a : Act} {Q : Exit → Act → World → Prop} (hgd : o.guard = none) (s x : Operand)
    (ho : o.op = .call { callee := .builtin .append, args := #[s, x], argTypes := #[41, 41] }) (B d : Nat) (v u : Value) (hu1 : u.oneCell' = true) (hs : a.eval s = v) (H : Nat) (hH : H = w.heap.size) (hx : a.eval x = .slice (some ⟨H, 0, none⟩) 1 1)
    (h : Fur aa bb w B v d) (hd : d ≤ 2000) (hbase : B ≤ w.heap.size)
    (hk : ∀ gf c w', FurAt aa bb w' gf d → Below B w w' → wpList Try.prog ops Q rest (a.put o.dst (.slice (some ⟨gf, 0, none⟩) (d + 1) c)) w') : wpList Try.prog ops Q (o :: rest) a (w.alloc (.cells #[u] 38)) := by
  subst hH
  have hA := (Below.refl _ w).alloc (Nat.le_refl _) (.cells #[u] 38)
  obtain ⟨rv, h1, h2⟩ := Fur.below _ _ h hA
  refine wpList_append1 hgd s x 41 ho B 38 (.slice none 0 0) 24 Try.underlying41' Try.info38 rfl v d _ hs h1 _ [u] hx (.inr ⟨⟨w.heap.size, 0, none⟩, 1, rfl, cell_one_new _ _ _⟩) ?_ ?_ ?_ ?_ (fun v' w' h3 h4 => ?_)
  · intro u hu; rw [List.mem_singleton.1 hu]; exact hu1
  · simp [maxLen]; omega
  · simp; omega
  · simp; omega
  · obtain ⟨gf, c, rfl, hc⟩ := owns_get h3 (by simp)
    refine hk gf c w' (fun i hi => ?_) (((Below.refl _ w).alloc hbase _).grown h4 (by simp; omega) (fun k hk => (h1.lt k hk).1))
    obtain ⟨r, hr, ho'⟩ := h2 i hi
    obtain ⟨g, c', hv, hg⟩ := owns_get (ho'.kept h4 (own_ne ho' h1 (by decide))) (by omega)
    refine ⟨g, c', r, ?_, fun j hj => hg j _ (irow_get _ _ _ hj), hr⟩
    rw [hc i (rv i) (by rw [List.getElem?_append_left (by simpa using hi)]; simp [hi]), hv]

theorem lay_snocA {aa bb : List ByteArray} {l : List UInt8} {o : UInt8} {x : Nat} (ho : o ≠ 43) (hx : cntA l = x) (hxl : x < aa.length) : lay aa bb (l ++ [o]) 0 0 = lay aa bb l 0 0 ++ [(o, aa[x])] := by
  rw [lay_append, Nat.zero_add, hx, ← ln_get hxl]
  simp [lay, ho]
theorem lay_snocB {aa bb : List ByteArray} {l : List UInt8} {x : Nat} (hx : cntB l = x) (hxl : x < bb.length) : lay aa bb (l ++ [43]) 0 0 = lay aa bb l 0 0 ++ [(43, bb[x])] := by
  rw [lay_append, Nat.zero_add, Nat.zero_add, hx, ← ln_get hxl]
  rfl

set_option maxHeartbeats 8000000 in
set_option maxRecDepth 100000 in
theorem shortest_any (a b : Option Addr) (ca cb : Nat) (aa bb : List ByteArray) (w : World) (hla : aa.length ≤ 8192) (hlb : bb.length ≤ 8192) (ha : SAt w a aa) (hb : SAt w b bb) :
    Calls Try.prog 19 #[.slice a aa.length ca, .slice b bb.length cb] w (Eds w (lay aa bb (shortestOps aa bb) 0 0)) := by
  have HA := hid ha
  have HB := hid hb
  clear ha hb
  obtain ⟨dd, hdd⟩ : ∃ dd, D aa bb = dd := ⟨_, rfl⟩
  have hDn : dd ≤ aa.length + bb.length := by have := My.D_eq aa bb; omega
  have HDD := hid hdd
  clear hdd
  obtain ⟨lim, hlim⟩ : ∃ lim, lim = min (aa.length + bb.length) 1000 := ⟨_, rfl⟩
  have m1 : lim ≤ 1000 := by omega
  have HLIM := hid hlim
  clear hlim
  go_enter Try.func19, Try.ntmps19
  go_wp2
  go_loopg [7, 8] (lim + 1) (fun gm fv dv wr => ∃ d : Nat, gm = lim + 1 - d ∧ d ≤ lim + 1 ∧ d ≤ dd ∧ dv = .int .i64 d ∧ Fur aa bb wr w.heap.size fv d ∧ Below w.heap.size w wr)
  case atStart => exact ⟨0, rfl, by omega, by omega, rfl, Fur.nil _ _ _ _, Below.refl _ _⟩
  case round =>
    obtain ⟨d, rfl, hd, hdd, rfl, hfu, hB⟩ := hrel
    obtain ⟨pf, cf, rfl⟩ := own_form hfu.choose_spec.1
    have HFU := hid hfu
    have HBl := hid hB
    have z0 := hB.size
    clear hfu hB
    generalize hG : decide (d ≤ lim) = G
    have HG := hid hG
    clear hG
    go_upto_region 4 with (fail)
    go_cut [26] (fun t wc => t = .bool G ∧ wr = wc)
    case first =>
      have hl := HLIM.out
      have hc : ((1000 : Int) < (aa.length : Int) + bb.length ∧ lim = 1000) ∨ ((aa.length : Int) + bb.length ≤ 1000 ∧ lim = aa.length + bb.length) := by omega
      rcases hc with ⟨h1, h2⟩ | ⟨h1, h2⟩
      · by_cases g : d ≤ lim
        · have HG2 := hid (show G = true by rw [← HG.out]; exact decide_eq_true g)
          have g1 : (d : Int) ≤ 1000 := by omega
          clear HG hl h2 g
          go_wp2_with (fail)
          go_meet
          exact ⟨by rw [HG2.out], rfl⟩
        · have HG2 := hid (show G = false by rw [← HG.out]; exact decide_eq_false g)
          have g1 : ¬ (d : Int) ≤ 1000 := by omega
          clear HG hl h2 g
          go_wp2_with (fail)
          go_meet
          exact ⟨by rw [HG2.out], rfl⟩
      · by_cases g : d ≤ lim
        · have HG2 := hid (show G = true by rw [← HG.out]; exact decide_eq_true g)
          have g1 : (d : Int) ≤ (aa.length : Int) + bb.length := by omega
          clear HG hl h2 g
          go_wp2_with (fail)
          go_meet
          exact ⟨by rw [HG2.out], rfl⟩
        · have HG2 := hid (show G = false by rw [← HG.out]; exact decide_eq_false g)
          have g1 : ¬ (d : Int) ≤ (aa.length : Int) + bb.length := by omega
          clear HG hl h2 g
          go_wp2_with (fail)
          go_meet
          exact ⟨by rw [HG2.out], rfl⟩
    case rest =>
      obtain ⟨rfl, rfl⟩ := hcut
      cases hGG : G with
      | true =>
        have g := of_decide_eq_true (HG.out.trans hGG)
        clear hGG HG
        have hmk := run_make_row' (P := Try.prog) 38 3 (.int .i64 0) 8 Try.underlying38' Try.info3' rfl .i64 .i64 (2 * d + 1) (by omega) (by omega)
        have eN : ((2 * d + 1 : Nat) : Int) = 2 * (d : Int) + 1 := by omega
        rw [eN] at hmk
        clear eN
        go_wp2_with (fail)
        clear hmk
        obtain ⟨w3, hw3⟩ : ∃ w3, w3 = wr := ⟨_, rfl⟩
        subst hw3
        obtain ⟨NN, hNN⟩ : ∃ NN, 2 * d + 1 = NN := ⟨_, rfl⟩
        rw [hNN]
        have HNN := hid hNN
        have nn1 : 2 * d + 1 ≤ NN := by omega
        clear hNN
        go_loopg [10] (d + 1) (fun gm kv wr => ∃ (j : Nat) (k : Int) (r : Nat → Int), gm + j = d + 1 ∧ k = -(d : Int) + 2 * j ∧ kv = .int .i64 k ∧ RK aa bb d k r ∧ Blk wr w3.heap.size 3 (irow NN r) ∧ Below w3.heap.size w3 wr)
        case atStart => exact ⟨0, -(d : Int), fun _ => 0, rfl, by omega, rfl, RK.start _ _ _ _, by rw [irow_zero]; exact Blk.made w3 3 _ _, (Below.refl _ w3).alloc (Nat.le_refl _) _⟩
        case round =>
          obtain ⟨j, k, r, hgj, hkj, rfl, hRK, hK, hB⟩ := hrel
          have HRK := hid hRK
          have HK := hid hK
          have HB3 := hid hB
          have HKJ := hid hkj
          have hk0 : -(d : Int) ≤ k := by omega
          have hjd : j ≤ d + 1 := by omega
          have z3 := hB.size
          clear hRK hK hB hkj
          by_cases hkd : k ≤ d
          · have hv := hid (show Vd d k from ⟨hk0, hkd, by have := HKJ.out; omega⟩)
            obtain ⟨sx, hsx⟩ : ∃ sx, sx = st aa bb d k := ⟨_, rfl⟩
            have HSX := hid hsx
            have hsb := st_pos aa bb d k hv.out
            rw [← hsx] at hsb
            obtain ⟨s1, s2, s3, s4⟩ := hsb
            clear hsx
            go_upto_if 41 with (fail)
            go_cut [11] (fun xv wc => xv = .int .i64 sx ∧ ∃ n, wc = wr.drewN n)
            case first =>
              by_cases hd0 : 0 < d
              · obtain ⟨jj, hjj⟩ : ∃ jj, d = jj + 1 := ⟨d - 1, by omega⟩
                obtain ⟨gf, hgf, hfat⟩ := Fur.at aa bb (Fur.below _ _ HFU.out HB3.out) hd0 (Nat.le_refl _)
                obtain ⟨g, c, rr, c1, c2, c3⟩ := hfat jj (by omega)
                have HSTEP := hid (step_any g c jj (2 * jj + 1) k rr (F aa bb jj) wr (by omega) rfl c2 (fun k' hv' => ⟨c3 k' hv', (My.F_pos aa bb jj k' hv').1, by have := (My.F_le aa bb jj k' hv').1; omega⟩) (by rw [← hjj]; exact hv.out))
                have HE := hid (show My.start (F aa bb jj) jj k = sx by rw [HSX.out, hjj]; rfl)
                have e1 : d - 1 = jj := by omega
                rw [← e1] at c1
                obtain ⟨N2, hN2⟩ : ∃ N2, 2 * (d - 1) + 1 = N2 := ⟨_, rfl⟩
                rw [hN2] at c1
                have hN3 : 2 * jj + 1 = N2 := by omega
                rw [hN3] at HSTEP
                have hd1 : (0 : Int) < d := by omega
                clear c2 c3 e1 hN2 hN3 hjj hfat
                subst hgf
                go_wp2_with (fail)
                refine HSTEP.out.mono ?_
                rintro e w5 ⟨rfl, n5, rfl⟩
                rw [HE.out]
                go_wp2_with (fail)
                go_meet
                exact ⟨rfl, n5, rfl⟩
              · have hd1 : ¬ (0 : Int) < d := by omega
                have HE := hid (show (0 : Int) = sx by
                  rw [HSX.out]
                  obtain rfl : d = 0 := by omega
                  rfl)
                go_wp2_with (fail)
                go_meet
                exact ⟨by rw [HE.out], 0, rfl⟩
            case rest =>
              obtain ⟨rfl, nq, rfl⟩ := hcut
              have HK' := hid (show Blk (wr.drewN nq) w3.heap.size 3 (irow NN r) from HK.out)
              have HB3' := hid (below_drewN HB3.out nq)
              clear HK HB3
              generalize wr.drewN nq = wq at *
              go_wp2_with (fail)
              go_loopg [11] (aa.length - sx.toNat) (fun gm xv wr => ∃ xn yn : Nat, gm = aa.length - xn ∧ xv = .int .i64 xn ∧ (xn : Int) - k = yn ∧ sx ≤ xn ∧ xn ≤ 16384 ∧ (∀ i : Int, sx ≤ i → i < xn → same aa bb i (i - k) = true) ∧ Blk wr w3.heap.size 3 (irow NN r) ∧ Below w3.heap.size w3 wr)
              case atStart => exact ⟨sx.toNat, (sx - k).toNat, rfl, by rw [Int.toNat_of_nonneg s1], by omega, by omega, by omega, fun i h1 h2 => by omega, HK'.out, HB3'.out⟩
              case round =>
                clear HK' HB3'
                obtain ⟨xn, yn, rfl, rfl, hyn, hsx1, hx3, hsame, hK, hB⟩ := hrel
                have HK := hid hK
                have HB3 := hid hB
                have HSM := hid hsame
                have HYN := hid hyn
                have y1 : yn ≤ 32768 := by omega
                clear hK hB hsame
                generalize hS : same aa bb xn yn = S
                have HS := hid hS
                clear hS
                go_wp2_with (fail)
                go_cut [74] (fun t wc => t = .bool S ∧ ∃ n, wc = wr.drewN n)
                case first =>
                  by_cases gx : xn < aa.length
                  · by_cases gy : yn < bb.length
                    · have HBw := hid (HBl.out.trans (HB3.out.mono z0))
                      obtain ⟨ba, oa, rfl, hca⟩ := (HA.out.below HBw.out) xn gx
                      obtain ⟨bb', ob, rfl, hcb⟩ := (HB.out.below HBw.out) yn gy
                      have ey : ((xn : Int) - k).toNat = yn := by omega
                      have hcb' : wr.cell? ⟨bb', ob + ((xn : Int) - k).toNat, none⟩ = some (.string bb[yn]) := by rw [ey]; exact hcb
                      have gx' : (xn : Int) < aa.length := by omega
                      have gy' : (xn : Int) - k < bb.length := by omega
                      have gz : 0 ≤ (xn : Int) - k := by omega
                      have HE := hid (show S = decide (aa[xn] = bb[yn]) by
                        rw [← HS.out]; unfold same
                        rw [My.eqAt_iff (by simpa using gx) (by simpa using gy)]; simp)
                      clear ey hyn hcb
                      go_quiet (fail)
                      go_wp2
                      go_meet
                      exact ⟨by rw [HE.out, bytes_eq], _, rfl⟩
                    · have HE := hid (show S = false by
                        rw [← HS.out]; apply Bool.eq_false_iff.2; intro hc; have := My.same_lt hc; omega)
                      have gx' : (xn : Int) < aa.length := by omega
                      have gy' : decide ((xn : Int) - k < bb.length) = false := decide_eq_false (by omega)
                      clear hyn
                      go_quiet (fail)
                      go_wp2
                      go_meet
                      exact ⟨by rw [HE.out], _, rfl⟩
                  · have HE := hid (show S = false by
                      rw [← HS.out]; apply Bool.eq_false_iff.2; intro hc; have := My.same_lt hc; omega)
                    have gx' : decide ((xn : Int) < aa.length) = false := by simpa using gx
                    clear hyn
                    go_quiet (fail)
                    go_wp2
                    go_meet
                    exact ⟨by rw [HE.out], _, rfl⟩
                case rest =>
                  obtain ⟨rfl, nq2, rfl⟩ := hcut
                  have HK' := hid (show Blk (wr.drewN nq2) w3.heap.size 3 (irow NN r) from HK.out)
                  have HB3' := hid (below_drewN HB3.out nq2)
                  clear HK HB3
                  generalize wr.drewN nq2 = wq2 at *
                  cases hSS : S with
                  | true =>
                    have hss := HS.out.trans hSS
                    have hlt := My.same_lt hss
                    have HSM2 := hid (show ∀ i : Int, sx ≤ i → i < ((xn + 1 : Nat) : Int) → same aa bb i (i - k) = true from fun i h1 h2 => by
                      by_cases e : i < xn
                      · exact HSM.out i h1 e
                      · obtain rfl : i = xn := by omega
                        rw [HYN.out]; exact hss)
                    clear hss HSM HS hyn
                    go_wp2_with (fail)
                    go_roundg (aa.length - (xn + 1))
                    case measure => omega
                    case rel => exact ⟨xn + 1, yn + 1, rfl, by go_num, by have := HYN.out; omega, by omega, by omega, HSM2.out, HK'.out, HB3'.out⟩
                  | false =>
                    have HF := hid (show F aa bb d k = xn by
                      rw [F_st aa bb d k hv.out, ← HSX.out]
                      refine My.sn_unique aa bb k sx xn s1 hsx1 HSM.out ?_
                      rw [HYN.out, HS.out, hSS]; simp)
                    clear hSS HSM HS
                    obtain ⟨q, hq⟩ : ∃ q : Nat, k + d = q := ⟨(k + d).toNat, by omega⟩
                    have HQ := hid hq
                    have cq := HK'.out.icell q (by omega)
                    have fq := HK'.out.frozen q
                    have z5 := HB3'.out.size
                    have HKs := hid (show Blk (wq2.setCell ⟨w3.heap.size, q, none⟩ (.int .i64 xn)) w3.heap.size 3 (irow NN fun i => if i = q then (xn : Int) else r i) by rw [← irow_set]; exact HK'.out.set q _)
                    have HBs := hid (show Below w3.heap.size w3 (wq2.setCell ⟨w3.heap.size, q, none⟩ (.int .i64 xn)) from HB3'.out.setCell (Nat.le_refl _) _)
                    by_cases hend : xn = aa.length ∧ yn = bb.length
                    · obtain ⟨hn1, hn2⟩ := hend
                      have hEE := My.F_end aa bb d k hv.out (by rw [HF.out]; omega) (by rw [HF.out, HYN.out]; omega)
                      have hdeq : d = dd := by have := HDD.out; omega
                      have hk2 : k = (aa.length : Int) - bb.length := by omega
                      have HDQ := hid (show D aa bb = d by rw [HDD.out, hdeq])
                      have HK2 := hid hk2
                      have e2 : ((xn : Int) == (aa.length : Int)) = true := by simp [hn1]
                      have e3 : ((xn : Int) - k == (bb.length : Int)) = true := beq_iff_eq.2 (by omega)
                      have HFs := hid (Fur.below _ _ HFU.out HBs.out)
                      have z6 := HBs.out.size
                      have HBw := hid (HBl.out.trans (HBs.out.mono z0))
                      clear hn1 hn2 hEE hdeq hk2
                      go_upto_region 16 with (fail)
                      clear hq hyn
                      go_wp2_with (at_builtin; (refine wpList_fur0 (aa := aa) (bb := bb) rfl (.tmp 95) (.tmp 97) rfl w.heap.size d _ _ rfl rfl wq2.heap.size (by simp) rfl HFs.out (by omega) (by omega) ?_); intro gf c5 w5 ho5 hb5; have HO5 := hid ho5; have HB5 := hid hb5; clear ho5 hb5)
                      have HBw5 := hid (HBw.out.trans HB5.out)
                      refine (backtrack_any a b ca cb gf c5 d aa bb w5 hla hlb HDQ.out (by omega) (HA.out.below HBw5.out) (HB.out.below HBw5.out) HO5.out (d + 1) rfl k HK2.out).mono ?_
                      rintro e w6 ⟨v6, rfl, ho6, hb6⟩
                      have HO6 := hid ho6
                      have HB6 := hid hb6
                      clear ho6 hb6
                      go_wp2_with (fail)
                      go_ret
                      exact ⟨_, rfl, HO6.out.base HBw5.out.size, HBw5.out.trans (HB6.out.mono HBw5.out.size)⟩
                    · have HNO := hid (show ¬ (F aa bb d k = (aa.length : Int) ∧ F aa bb d k - k = bb.length) by rw [HF.out, HYN.out]; omega)
                      have HRK2 := hid (HRK.out.step _ _ hv.out HNO.out)
                      rw [HF.out, show (k + (d : Int)).toNat = q by omega] at HRK2
                      go_upto_region 16 with (fail)
                      go_cut [92] (fun t wc => t = .bool false ∧ wq2.setCell ⟨w3.heap.size, q, none⟩ (.int .i64 xn) = wc)
                      case first =>
                        by_cases e1 : xn = aa.length
                        · have e2 : ((xn : Int) == (aa.length : Int)) = true := by simp [e1]
                          have e3 : ((xn : Int) - k == (bb.length : Int)) = false := beq_eq_false_iff_ne.2 (by omega)
                          clear hend e1 hyn hq
                          go_wp2_with (fail)
                          go_meet
                          exact ⟨rfl, rfl⟩
                        · have e2 : ((xn : Int) == (aa.length : Int)) = false := beq_eq_false_iff_ne.2 (by omega)
                          clear hend e1 hyn hq
                          go_wp2_with (fail)
                          go_meet
                          exact ⟨rfl, rfl⟩
                      case rest =>
                        obtain ⟨rfl, rfl⟩ := hcut
                        clear hend hyn hq
                        go_wp2_with (fail)
                        go_roundg (d + 1 - (j + 1))
                        case measure => have := HKJ.out; omega
                        case rel => exact ⟨j + 1, k + 2, _, by have := HKJ.out; omega, by have := HKJ.out; omega, rfl, HRK2.out, HKs.out, HBs.out⟩
          · have hE := HRK.out.done _ _ (by omega) (by have := HDD.out; omega)
            have HE1 := hid hE.1
            have hE2 : d + 1 ≤ dd := by have := HDD.out; have := hE.2; omega
            clear hE
            go_wp2_with (at_builtin; refine wpList_fur (aa := aa) (bb := bb) rfl (.tmp 101) (.tmp 103) rfl w.heap.size d w3.heap.size NN _ _ rfl rfl (Fur.below _ _ HFU.out HB3.out) HE1.out HNN.out z0 HK.out (by omega) (by omega) ?_; intro v5 w5 ho5 hb5; have HO5 := hid ho5; have HB5 := hid hb5; clear ho5 hb5)
            go_roundg (lim + 1 - (d + 1))
            case measure => omega
            case rel => exact ⟨d + 1, rfl, by omega, hE2, by go_num, HO5.out, (HBl.out.trans (HB3.out.mono z0)).trans HB5.out⟩
      | false =>
        have g := of_decide_eq_false (HG.out.trans hGG)
        have hbig : ¬ dd ≤ 1000 := by have := HLIM.out; omega
        have HSO := hid (show shortestOps aa bb = List.replicate aa.length 45 ++ List.replicate bb.length 43 by unfold My.shortestOps; rw [HDD.out, if_neg hbig])
        clear hGG HG hbig g HFU
        go_wp2_with (fail)
        go_loopg [12, 107] aa.length (fun gm ev tv wr => ∃ t : Nat, gm = aa.length - t ∧ t ≤ aa.length ∧ tv = .int .i64 t ∧ ERow wr w.heap.size ev (lay aa bb (List.replicate t 45) 0 0) ∧ Below w.heap.size w wr)
        case atStart => exact ⟨0, rfl, by omega, rfl, ERow.nil _ _, HBl.out⟩
        case round =>
          clear HBl
          obtain ⟨t, rfl, ht, rfl, hE, hB⟩ := hrel
          have HE := hid hE
          have HBl := hid hB
          have z1 := hB.size
          by_cases hlt : t < aa.length
          · obtain ⟨ba, oa, rfl, hca⟩ := (HA.out.below hB) t hlt
            have HE2 := hid (fun o => HE.out.below ((Below.refl _ wr).alloc (Nat.le_refl _) o))
            have HSR := hid (ESrc.one wr 45 aa[t] 45 rfl)
            have HLEN := hid (show (lay aa bb (List.replicate t 45) 0 0).length + 1 ≤ 65536 by rw [lay_length]; simp; omega)
            have hlt1 : (t : Int) < aa.length := by omega
            clear hE hB
            go_wp2_with (at_builtin; refine wpList_appE rfl (.tmp 111) (.tmp 114) rfl w.heap.size u12 _ _ _ rfl rfl (HE2.out _) HSR.out HLEN.out (by simp; omega) ?_; intro v1 w1 hn1 hg1 hb1; have HN1 := hid hn1; have HB1 := hid hb1; clear hn1 hg1 hb1)
            go_roundg (aa.length - (t + 1))
            case measure => omega
            case rel =>
              refine ⟨t + 1, rfl, by omega, by go_num, ?_, (HBl.out.alloc z1 _).trans HB1.out⟩
              have h := HN1.out
              rwa [← lay_snocA (by decide) (by rw [cntA_rep, if_neg (by decide)]) hlt, ← List.replicate_succ'] at h
          · obtain rfl : t = aa.length := by omega
            have hlt1 : ¬ (aa.length : Int) < aa.length := by omega
            clear hE hB
            go_wp2_with (fail)
            go_loopg [12, 119] bb.length (fun gm ev tv wr => ∃ t : Nat, gm = bb.length - t ∧ t ≤ bb.length ∧ tv = .int .i64 t ∧ ERow wr w.heap.size ev (lay aa bb (List.replicate aa.length 45 ++ List.replicate t 43) 0 0) ∧ Below w.heap.size w wr)
            case atStart => exact ⟨0, rfl, by omega, rfl, by simpa using HE.out, HBl.out⟩
            case round =>
              clear HBl HE
              obtain ⟨t, rfl, ht, rfl, hE, hB⟩ := hrel
              have HE := hid hE
              have HBl := hid hB
              have z1 := hB.size
              by_cases hlt : t < bb.length
              · obtain ⟨ba, oa, rfl, hca⟩ := (HB.out.below hB) t hlt
                have HE2 := hid (fun o => HE.out.below ((Below.refl _ wr).alloc (Nat.le_refl _) o))
                have HSR := hid (ESrc.one wr 43 bb[t] 43 rfl)
                have HLEN := hid (show (lay aa bb (List.replicate aa.length 45 ++ List.replicate t 43) 0 0).length + 1 ≤ 65536 by rw [lay_length]; simp; omega)
                have hlt2 : (t : Int) < bb.length := by omega
                clear hE hB
                go_wp2_with (at_builtin; refine wpList_appE rfl (.tmp 123) (.tmp 126) rfl w.heap.size u12 _ _ _ rfl rfl (HE2.out _) HSR.out HLEN.out (by simp; omega) ?_; intro v1 w1 hn1 hg1 hb1; have HN1 := hid hn1; have HB1 := hid hb1; clear hn1 hg1 hb1)
                go_roundg (bb.length - (t + 1))
                case measure => omega
                case rel =>
                  refine ⟨t + 1, rfl, by omega, by go_num, ?_, (HBl.out.alloc z1 _).trans HB1.out⟩
                  have h := HN1.out
                  rwa [← lay_snocB (by rw [cntB_append, cntB_rep, cntB_rep, if_pos rfl, if_neg (by decide), Nat.zero_add]) hlt, List.append_assoc, ← List.replicate_succ'] at h
              · obtain rfl : t = bb.length := by omega
                have hlt2 : ¬ (bb.length : Int) < bb.length := by omega
                clear hE hB
                go_wp2_with (fail)
                go_ret
                exact ⟨_, rfl, by rw [HSO.out]; exact HE.out, HBl.out⟩
end Go.Proofs.Qxb6603052a
