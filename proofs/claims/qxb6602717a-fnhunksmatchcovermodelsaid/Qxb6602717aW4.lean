/-
  THE WALK OF 'shortest'.
-/
import Derived.Test.Qxb6602717aW3
import Derived.Test.Qxb6602717aSh
namespace Go.Proofs.Qxb6602717a
open Go.RowKit
open My (F D L Vd sn same eqAt shortestOps back)

def RetI (x : Int) (w : World) (e : Ending) (w' : World) : Prop := e = .returned (.int .i64 x) ∧ ∃ n, w' = w.drewN n

set_option maxHeartbeats 400000 in
theorem before_any (pr pd gr gd rl rc cd : Nat) (d k x : Int) (w : World) (h0 : 0 ≤ d) (h1 : d < rl) (hk0 : 0 ≤ k + d + 1) (nd : Nat) (hk1 : k + d + 1 < nd)
    (c1 : w.cell? ⟨pr, 0, none⟩ = some (.slice (some ⟨gr, 0, none⟩) rl rc)) (c2 : w.cell? ⟨pd, 0, none⟩ = some (.int .i64 d)) (c3 : w.cell? ⟨gr, d.toNat, none⟩ = some (.slice (some ⟨gd, 0, none⟩) nd cd))
    (c4 : w.cell? ⟨gd, (k + d + 1).toNat, none⟩ = some (.int .i64 x)) (hnd : nd ≤ 200000) :
    Calls Try.prog 29 #[.int .i64 k, .pointer (some ⟨pr, 0, none⟩), .pointer (some ⟨pd, 0, none⟩)] w (RetI x w) := by
  go_enter Try.func29, Try.ntmps29
  go_wp2
  go_quiet (fail)
  go_wp2
  go_ret
  exact ⟨rfl, _, rfl⟩

theorem owns_get {w : World} {B : Nat} {e : TypeId} {v : Value} {n : Nat} {xs : List Value} (h : w.ownsRow B e 1 v n xs) (hn : 0 < n) : ∃ g c, v = .slice (some ⟨g, 0, none⟩) n c ∧ ∀ i u, xs[i]? = some u → w.cell? ⟨g, i, none⟩ = some u := by
  rcases h.2 with ⟨_, e⟩ | ⟨g, cap, cur, rfl, _⟩
  · omega
  · refine ⟨g, cap, rfl, fun i u hu => ?_⟩
    have := h.cells (g := g) rfl i u hu
    rwa [Addr.add_lit, Nat.zero_add] at this

theorem bef {aa bb : List ByteArray} {w2 W : World} {B B2 H1 dd pd j : Nat} {vR : Value} {k : Int} (hbox : w2.cell? ⟨H1, 0, none⟩ = some vR) (hr : Rds aa bb w2 B vR (dd + 1)) (hW : Below B2 w2 W) (hB2 : w2.heap.size ≤ B2)
    (hj : j + 1 ≤ dd) (hdd : dd ≤ 1000) (hpd : W.cell? ⟨pd, 0, none⟩ = some (.int .i64 ((j : Int) + 1))) (hv : Vd j k) :
    Calls Try.prog 29 #[.int .i64 k, .pointer (some ⟨H1, 0, none⟩), .pointer (some ⟨pd, 0, none⟩)] W (RetI (F aa bb j k) W) := by
  have keep : ∀ (a : Addr) (v : Value), w2.cell? a = some v → W.cell? a = some v := fun a v h => by
    rw [hW.cell (Nat.lt_of_lt_of_le (World.block_lt_of_cell? _ _ h) hB2)]; exact h
  obtain ⟨rv, h1, h2⟩ := hr
  obtain ⟨gr, rc, rfl, hgr⟩ := owns_get h1 (by omega)
  obtain ⟨f, hf, ho⟩ := h2 (j + 1) (by omega)
  obtain ⟨gd, cd, hrv, hgd⟩ := owns_get ho (by omega)
  have c3 := keep _ _ (hgr (j + 1) (rv (j + 1)) (by rw [List.getElem?_map, List.getElem?_range (by omega)]; rfl))
  rw [hrv] at c3
  unfold Vd at hv
  have c4 := keep _ _ (hgd (k + ((j + 1 : Nat) : Int) + 1).toNat (.int .i64 (F aa bb j k)) (by rw [irow_get _ _ _ (by omega), hf j rfl k hv]))
  have e1 : ((j : Int) + 1).toNat = j + 1 := by omega
  have e2 : ((j + 1 : Nat) : Int) = (j : Int) + 1 := by omega
  rw [e2] at c4
  refine before_any H1 pd gr gd (dd + 1) rc cd ((j : Int) + 1) k (F aa bb j k) W (by omega) (by omega) (by omega) (2 * (j + 1) + 3) (by omega) (keep _ _ hbox) hpd (by rw [e1]; exact c3) c4 (by omega)

structure Ph2 (w2 wr : World) (pd : Nat) (dv : Int) (ov : Value) (acc : List UInt8) : Prop where
  below : Below w2.heap.size w2 wr
  box : Blk wr pd 3 [.int .i64 dv]
  ge : w2.heap.size ≤ pd
  own : wr.ownsRow w2.heap.size 31 1 ov acc.length (acc.map opV)

theorem Ph2.drewN {w2 wr : World} {pd : Nat} {dv : Int} {ov : Value} {acc : List UInt8} (h : Ph2 w2 wr pd dv ov acc) (n : Nat) : Ph2 w2 (wr.drewN n) pd dv ov acc := ⟨below_drewN h.below n, h.box, h.ge, h.own⟩

theorem Ph2.app {w2 wr w' : World} {pd : Nat} {dv : Int} {ov v' : Value} {acc : List UInt8} (h : Ph2 w2 wr pd dv ov acc) (c : UInt8) (ho : w'.ownsRow w2.heap.size 31 1 v' (acc.length + 1) (acc.map opV ++ [opV c]))
    (hg : (wr.alloc (.cells #[opV c] 31)).grownBy w' ov.ownBlock) : Ph2 w2 w' pd dv v' (acc ++ [c]) := by
  have hs := h.below.size
  have hoA := h.own.alloc (.cells #[opV c] 31)
  have hbA := h.box.alloc (.cells #[opV c] 31)
  refine ⟨(h.below.alloc hs _).grown hg (by simp; omega) (fun k hk => (h.own.lt k hk).1), hbA.grown hg (own_ne_blk hoA hbA (by decide)), h.ge, ?_⟩
  simpa using ho

/-- 'ops = append(ops, c)'. -/
theorem wpList_push {w2 wr : World} {pd : Nat} {dv : Int} {ov : Value} {acc : List UInt8} {ops : Array Oper} {rest : List Oper} {o : Oper} {a : Act} {Q : Exit → Act → World → Prop} (hgd : o.guard = none) (s x : Operand)
    (ho : o.op = .call { callee := .builtin .append, args := #[s, x], argTypes := #[27, 27] }) (c : UInt8) (hs : a.eval s = ov) (hx : a.eval x = .slice (some ⟨wr.heap.size, 0, none⟩) 1 1) (hP : Ph2 w2 wr pd dv ov acc) (hlen : acc.length ≤ 16384)
    (h : ∀ v' w', Ph2 w2 w' pd dv v' (acc ++ [c]) → wpList Try.prog ops Q rest (a.put o.dst v') w') : wpList Try.prog ops Q (o :: rest) a (wr.alloc (.cells #[opV c] 31)) := by
  have hsz := hP.below.size
  refine wpList_append1 hgd s x 27 ho w2.heap.size 31 (.string ⟨#[]⟩) 16 Try.underlying27 Try.info31 rfl ov _ _ hs (hP.own.alloc _) _ [opV c] hx (.inr ⟨⟨wr.heap.size, 0, none⟩, 1, rfl, cell_one_new _ _ _⟩) ?_ ?_ ?_ ?_ (fun v' w' h1 h2 => h v' w' (hP.app c h1 h2))
  · intro u hu; rw [List.mem_singleton.1 hu]; rfl
  · simp only [maxLen, List.length_cons, List.length_nil]; omega
  · simp only [List.length_cons, List.length_nil]; omega
  · simp; omega

theorem Ph2.next {w2 wr : World} {pd : Nat} {dv : Int} {ov : Value} {acc : List UInt8} (h : Ph2 w2 wr pd dv ov acc) (x : Int) : Ph2 w2 (wr.alloc (.cells #[.int .i64 x] 3)) wr.heap.size x ov acc :=
  ⟨h.below.alloc h.below.size _, Blk.new wr 3 [.int .i64 x], h.below.size, h.own.alloc _⟩

theorem back_next {aa bb : List ByteArray} {acc full : List UInt8} {j xn xt t : Nat} {k fr : Int} {c : UInt8} (h : acc ++ back aa bb (j + 1) k = full) (hF : F aa bb (j + 1) k = xn) (hs : My.start (F aa bb j) j k = xt)
    (hfr : fr = My.fromK (F aa bb j) j k) (ht : xt + t = xn) (hc : c = if fr = k + 1 then 43 else 45) : acc ++ List.replicate t 32 ++ [c] ++ back aa bb j fr = full := by
  rw [← h, My.back_succ, hF, hs, ← hfr, ← hc, show ((xn : Int) - xt).toNat = t by omega]
  simp

structure Ph1 (aa bb : List ByteArray) (w wr : World) (o N d : Nat) (r : Nat → Int) (vR : Value) : Prop where
  below : Below w.heap.size w wr
  reach : Blk wr w.heap.size 3 (irow N r)
  box : Blk wr (w.heap.size + 1) 47 [vR]
  rds : Rds aa bb wr (w.heap.size + 2) vR d

theorem wr64 (x : Int) (h1 : -1000000 ≤ x) (h2 : x ≤ 1000000) : IntKind.i64.wrap x = x := by rw [IntKind.wrap_i64]; omega

theorem Try.info46 : (Try.prog.info? 46).map (fun i => (i.zero, i.size, i.bytes)) = some (some (.slice none 0 0), 1, 24) := by kernel_rfl
theorem cf28 (vs : Array Value) (w : World) : (callFunc 28 vs).run Try.prog w = .ok (.enter 28 vs) w := by kernel_rfl

theorem Rds.stepX {aa bb : List ByteArray} {w : World} {B : Nat} {v : Value} {d : Nat} (h : Rds aa bb w B v d) :
    ∃ rv : Nat → Value, w.ownsRow B 46 1 v d ((List.range d).map rv) ∧ ∀ (u v' : Value) (w' : World) (f : Nat → Int), RowOk aa bb d f → w.ownsRow B 3 1 u (2 * d + 3) (irow (2 * d + 3) f) → w.grownBy w' v.ownBlock →
      w'.ownsRow B 46 1 v' (d + 1) ((List.range d).map rv ++ [u]) → Rds aa bb w' B v' (d + 1) := by
  obtain ⟨rv, h1, h2⟩ := h
  refine ⟨rv, h1, fun u v' w' f hf hu hg hv => ?_⟩
  refine ⟨fun i => if i = d then u else rv i, ?_, fun i hi => ?_⟩
  · have e : (List.range (d + 1)).map (fun i => if i = d then u else rv i) = (List.range d).map rv ++ [u] := by
      rw [List.range_succ, List.map_append]
      congr 1
      · apply List.map_congr_left
        intro i hi
        rw [if_neg (by have := List.mem_range.1 hi; omega)]
      · simp
    rw [e]; exact hv
  · by_cases e : i = d
    · subst e
      dsimp only
      rw [if_pos rfl]
      exact ⟨f, hf, hu.kept hg (own_ne hu h1 (by decide))⟩
    · dsimp only
      rw [if_neg e]
      obtain ⟨f', hf', ho⟩ := h2 i (by omega)
      exact ⟨f', hf', ho.kept hg (own_ne ho h1 (by decide))⟩

theorem Ph1.next {aa bb : List ByteArray} {w wr : World} {o N d : Nat} {r : Nat → Int} {vR : Value} (hP : Ph1 aa bb w wr o N d r vR) (hRV : RV aa bb o d r) (hd : d + 1 ≤ o) (w1 : World) (v : Value) (hb : Below wr.heap.size wr w1)
    (hv : w1.ownsRow wr.heap.size 3 1 v (2 * d + 3) (irow (2 * d + 3) fun i => r (o - d - 1 + i))) :
    ∃ rv : Nat → Value, (w1.alloc (.cells #[v] 46)).ownsRow (w.heap.size + 2) 46 1 vR d ((List.range d).map rv) ∧ w1.cell? ⟨w.heap.size + 1, 0, none⟩ = some vR ∧ (∀ ob, (w1.alloc ob).cell? ⟨w.heap.size + 1, 0, none⟩ = some vR) ∧ w.heap.size + 2 ≤ w1.heap.size ∧
      ∀ (v' : Value) (w2 : World), w2.ownsRow (w.heap.size + 2) 46 1 v' (d + 1) ((List.range d).map rv ++ [v]) → (w1.alloc (.cells #[v] 46)).grownBy w2 vR.ownBlock →
        (∃ a' c', v' = .slice a' (d + 1) c') ∧ w2.cell? ⟨w.heap.size + 1, 0, none⟩ = some vR ∧ w2.frozen? ⟨w.heap.size + 1, 0, none⟩ = false ∧ Ph1 aa bb w (w2.setCell ⟨w.heap.size + 1, 0, none⟩ v') o N (d + 1) r v' := by
  have hH : w.heap.size + 2 ≤ wr.heap.size := hP.box.lt
  have hs := hb.size
  have hb2 : Below wr.heap.size wr (w1.alloc (.cells #[v] 46)) := hb.alloc hs _
  have hbox := hP.box.below hb2 (by omega)
  have hreach := hP.reach.below hb2 (by omega)
  obtain ⟨rv, h1, h2⟩ := (Rds.below aa bb hP.rds hb2).stepX
  refine ⟨rv, h1, (hP.box.below hb (by omega)).cell 0 (by simp), fun ob => ((hP.box.below hb (by omega)).alloc ob).cell 0 (by simp), by omega, fun v' w2 ho hg => ?_⟩
  have hne : vR.ownBlock ≠ some (w.heap.size + 1) := own_ne_blk h1 hbox (by decide)
  have hbox2 := hbox.grown hg hne
  have hsz2 : (w1.alloc (.cells #[v] 46)).heap.size = w1.heap.size + 1 := by simp
  have hB2 : Below w.heap.size w w2 := (hP.below.trans (hb2.mono (by omega))).grown hg (by rw [hsz2]; omega) (fun k hk => by have := (h1.lt k hk).1; omega)
  refine ⟨?_, hbox2.cell 0 (by simp), hbox2.frozen 0, ⟨hB2.setCell (by show w.heap.size ≤ w.heap.size + 1; omega) _, ?_, ?_, ?_⟩⟩
  · rcases ho.2 with ⟨_, e⟩ | ⟨g, cap, cur, e, _⟩
    · omega
    · exact ⟨_, _, e⟩
  · refine (hreach.grown hg ?_).setOther _ _ (by show w.heap.size ≠ w.heap.size + 1; omega)
    intro e
    have := (h1.lt _ e).1
    omega
  · have := hbox2.set 0 v'
    simpa using this
  · refine Rds.setCell aa bb (h2 v v' w2 _ ?_ ((ownsRow_base hv (by omega)).alloc _) hg ho) (by show w.heap.size + 1 < w.heap.size + 2; omega) _
    have := RowOk_of aa bb o d r hRV (by omega)
    have e : ((o : Int) - d - 1).toNat = o - d - 1 := by omega
    rw [e] at this
    exact this

theorem undrew {B : Nat} {w w' : World} (h : Below B w.drew w') : Below B w w' := ⟨h.os, h.tape, h.output, h.size, h.block⟩

theorem own_form {w : World} {B : Nat} {e : TypeId} {s : Nat} {v : Value} {n : Nat} {xs : List Value} (h : w.ownsRow B e s v n xs) : ∃ a c, v = .slice a n c := by
  rcases h.2 with ⟨rfl, rfl⟩ | ⟨g, cap, cur, rfl, _⟩
  · exact ⟨_, _, rfl⟩
  · exact ⟨_, _, rfl⟩

theorem Ph1.drewN {aa bb : List ByteArray} {w wr : World} {o N d : Nat} {r : Nat → Int} {vR : Value} (h : Ph1 aa bb w wr o N d r vR) (n : Nat) : Ph1 aa bb w (wr.drewN n) o N d r vR :=
  ⟨⟨h.below.os, h.below.tape, h.below.output, h.below.size, h.below.block⟩, h.reach, h.box, h.rds⟩

theorem Ph1.store {aa bb : List ByteArray} {w wr : World} {o N d q : Nat} {r : Nat → Int} {vR : Value} (h : Ph1 aa bb w wr o N d r vR) (x : Int) :
    Ph1 aa bb w (wr.setCell ⟨w.heap.size, q, none⟩ (.int .i64 x)) o N d (fun i => if i = q then x else r i) vR :=
  ⟨h.below.setCell (Nat.le_refl _) _, by rw [← irow_set]; exact h.reach.set q _, h.box.setOther _ _ (by show w.heap.size + 1 ≠ w.heap.size; omega), Rds.setCell aa bb h.rds (by show w.heap.size < w.heap.size + 2; omega) _⟩

theorem vclone_n (b off cap n : Nat) (xs : List Value) (w : World) (hn : xs.length = n) (hl : n ≤ 65536) (h1 : ∀ v ∈ xs, v.oneCell' = true) (hx : VAt w ⟨b, off, none⟩ xs) :
    Calls Try.prog 28 #[.slice (some ⟨b, off, none⟩) n cap] w (VClone w xs) := by
  subst hn; exact vclone_any b off cap xs w hl h1 hx

theorem VAt_part {w : World} {g N lo n : Nat} {r : Nat → Int} (h : Blk w g 3 (irow N r)) (hn : lo + n ≤ N) : VAt w ⟨g, lo, none⟩ (irow n fun i => r (lo + i)) := by
  intro j u hu
  have hj : j < n := by have := (List.getElem?_eq_some_iff.1 hu).1; rwa [irow_length] at this
  rw [irow_get _ _ _ hj] at hu
  rw [Addr.add_lit, h.icell (lo + j) (by omega)]
  exact hu

set_option maxHeartbeats 8000000 in
set_option maxRecDepth 100000 in
theorem shortest_any (a b : Option Addr) (ca cbb : Nat) (aa bb : List ByteArray) (w : World) (hla : aa.length ≤ 8192) (hlb : bb.length ≤ 8192) (ha : SAt w a aa) (hb : SAt w b bb) :
    Calls Try.prog 24 #[.slice a aa.length ca, .slice b bb.length cbb] w (Ops w (shortestOps aa bb)) := by
  have HA := hid ha
  have HB := hid hb
  clear ha hb
  have hmk := run_make_row' (P := Try.prog) 46 3 (.int .i64 0) 8 Try.underlying46 Try.info3 rfl .i64 .i64 (2 * (aa.length + bb.length + 1) + 1) (by omega) (by omega)
  have eN : ((2 * (aa.length + bb.length + 1) + 1 : Nat) : Int) = 2 * ((aa.length : Int) + bb.length + 1) + 1 := by omega
  rw [eN] at hmk
  clear eN
  go_enter Try.func24, Try.ntmps24
  go_wp2
  clear hmk
  obtain ⟨N, hN⟩ : ∃ N, N = 2 * (aa.length + bb.length + 1) + 1 := ⟨_, rfl⟩
  obtain ⟨o, ho⟩ : ∃ o : Nat, (o : Int) = (aa.length : Int) + bb.length + 1 := ⟨aa.length + bb.length + 1, by omega⟩
  rw [← hN, ← ho]
  have HN := hid hN
  have HO := hid ho
  have N1 : 2 * o + 1 ≤ N := by omega
  have N2 : N ≤ 2 * o + 1 := by omega
  have o1 : aa.length + bb.length + 1 ≤ o := by omega
  have o2 : o ≤ aa.length + bb.length + 1 := by omega
  have o4 : o ≤ 16385 := by omega
  clear hN ho
  have hD := My.D_eq aa bb
  have HD := hid hD
  have hD1 : D aa bb ≤ aa.length + bb.length := by omega
  clear hD
  obtain ⟨dd, hdd⟩ : ∃ dd, dd = D aa bb := ⟨_, rfl⟩
  have HDD := hid hdd
  rw [← hdd] at hD1
  clear hdd
  go_loopg [10, 11] (dd + 2) (fun gm ed dv wr => ∃ (d : Nat) (r : Nat → Int) (vR : Value), gm + d = dd + 2 ∧ dv = .int .i64 d ∧ Ph1 aa bb w wr o N d r vR ∧
    ((ed = .int .i64 (-1) ∧ d ≤ dd ∧ RV aa bb o d r) ∨ (ed = .int .i64 dd ∧ d = dd + 1 ∧ dd ≤ 1000)))
  case atStart =>
    refine ⟨0, fun _ => 0, .slice none 0 0, rfl, rfl, ⟨((Below.refl _ _).alloc (Nat.le_refl _) _).alloc (by simp) _, ?_, ?_, Rds_nil _ _ _ _⟩, .inl ⟨rfl, by omega, ⟨fun _ => by omega, fun _ _ => rfl, fun j hj => by omega⟩⟩⟩
    · rw [irow_zero]; exact (Blk.made w 3 _ _).alloc _
    · have := Blk.new (w.alloc (.cells (madeCells #[.int .i64 0] N) 3)) 47 [.slice none 0 0]
      simpa using this
  case round =>
    obtain ⟨d, r, vR, hgm, rfl, hP, hcase⟩ := hrel
    rcases hcase with ⟨rfl, hdd, hRV⟩ | ⟨rfl, hd11, hdd⟩
    · by_cases h1000 : 1000 < d
      · have HP := hid hP
        clear hP hRV
        have hsz := HP.out.below.size
        have hdd1 : 1000 < dd := by omega
        go_wp2_with (fail)
        refine (repeat_any wr.heap.size 45 aa.length _ (by omega) ((Blk.new wr 31 [opV 45]).cell 0 (by simp))).mono ?_
        rintro e w1 ⟨v1, rfl, ho1, hb1⟩
        rw [List.length_replicate] at ho1
        obtain ⟨a1, c1, rfl⟩ := own_form ho1
        have HO1 := hid ho1
        have HB1 := hid hb1
        have hs1 : wr.heap.size + 1 ≤ w1.heap.size := by have := hb1.size; simpa using this
        clear ho1 hb1
        go_wp2_with (fail)
        refine (repeat_any w1.heap.size 43 bb.length _ (by omega) ((Blk.new w1 31 [opV 43]).cell 0 (by simp))).mono ?_
        rintro e w2 ⟨v2, rfl, ho2, hb2⟩
        rw [List.length_replicate] at ho2
        obtain ⟨a2, c2, rfl⟩ := own_form ho2
        have HO2 := hid ho2
        have HB2 := hid hb2
        have hs2 : w1.heap.size + 1 ≤ w2.heap.size := by have := hb2.size; simpa using this
        clear ho2 hb2
        go_wp2_with (fail)
        have hB12 : Below w1.heap.size w1 w2 := (((Below.refl _ w1).alloc (Nat.le_refl _) _).trans (HB2.out.mono (by simp)))
        have hB2x : Below w2.heap.size w2 (w2.alloc (.cells #[.slice a1 aa.length c1, .slice a2 bb.length c2] 27)) := (Below.refl _ _).alloc (Nat.le_refl _) _
        refine (concat_any w2.heap.size _ _ (List.replicate aa.length 45) (List.replicate bb.length 43) _ ((Blk.new w2 27 [.slice a1 aa.length c1, .slice a2 bb.length c2]).cell 0 (by simp)) ((Blk.new w2 27 [.slice a1 aa.length c1, .slice a2 bb.length c2]).cell 1 (by simp)) (((owns_Src HO1.out).below hB12).below hB2x) ((owns_Src HO2.out).below hB2x) (by simp; omega) (by simp; omega) (by simp; omega)).mono ?_
        rintro e w3 ⟨v3, rfl, ho3, hb3⟩
        have HO3 := hid ho3
        have HB3 := hid hb3
        clear ho3 hb3 hB12 hB2x
        go_wp2
        go_ret
        have e1 : shortestOps aa bb = List.replicate aa.length 45 ++ List.replicate bb.length 43 := by
          unfold shortestOps
          rw [if_neg (by rw [← HDD.out]; omega)]
        have hb : Below w.heap.size w w3 := HP.out.below.trans ((((Below.refl _ wr).alloc (by omega) _).trans (HB1.out.mono (by simp; omega))).trans ((((Below.refl _ w1).alloc (by omega) _).trans (HB2.out.mono (by simp; omega))).trans (((Below.refl _ w2).alloc (by omega) _).trans (HB3.out.mono (by simp; omega)))))
        exact ⟨_, rfl, by rw [e1]; exact ownsRow_base HO3.out (by simp; omega), hb⟩
      · have HP := hid hP
        have HRV := hid hRV
        clear hP hRV
        go_wp2
        go_cut [] (fun wc => ∃ vR', Ph1 aa bb w wc o N (d + 1) r vR')
        case first =>
          have d4 : (d : Int) ≤ 1000 := by omega
          have cb : wr.cell? ⟨w.heap.size + 1, 0, none⟩ = some vR := HP.out.box.cell 0 (by simp)
          have q1 := wr64 ((o : Int) - d) (by omega) (by omega)
          have q2 := wr64 ((o : Int) - d - 1) (by omega) (by omega)
          have q3 := wr64 ((o : Int) + d) (by omega) (by omega)
          have q4 := wr64 ((o : Int) + d + 2) (by omega) (by omega)
          have q5 : ¬ N = o - d - 1 := by omega
          have q6 : max ((o : Int) + d + 2) 0 = (o : Int) + d + 2 := by omega
          have q7 : ((o : Int) + d + 2).toNat - (o - d - 1) = 2 * d + 3 := by omega
          have q10 : (o : Int) + d + 2 ≤ N := by omega
          have q11 : (o : Int) - d - 1 ≤ (o : Int) + d + 2 := by omega
          have q8 : (1 : Int) ≤ (o : Int) - d := by omega
          have q9 : (0 : Int) ≤ (o : Int) + d + 2 := by omega
          have HQ := hid (vclone_n w.heap.size (o - d - 1) (N - (o - d - 1)) (2 * d + 3) (irow (2 * d + 3) fun i => r (o - d - 1 + i)) wr.drew (irow_length _ _) (by omega) (irow_one _ _) (VAt_part HP.out.reach.drew (by omega)))
          go_region_law (first
            | (refine step_call rfl 28 [.tmp 66] #[46] ?hop [.slice (some ⟨w.heap.size, o - d - 1, none⟩) (2 * d + 3) (N - (o - d - 1))] ?hev (cf28 _ _) _ HQ.out ?_
               case hop => exact rfl
               case hev => go_simp
               rintro e w1 ⟨v1, rfl, ho1, hb1⟩
               rw [irow_length] at ho1
               obtain ⟨av1, cv1, rfl⟩ := own_form ho1
               obtain ⟨rv, p1, p2, p2', p3, p4⟩ := HP.out.next HRV.out (by omega) w1 _ (undrew hb1) ho1
               have P1 := hid p1
               have P4 := hid p4
               clear ho1 hb1 p1 p4
               refine ⟨_, rfl, ?_⟩)
            | (refine step_append1 rfl (.tmp 56) (.tmp 68) 47 rfl (w.heap.size + 2) 46 (.slice none 0 0) 24 Try.underlying47 Try.info46 rfl vR d _ rfl P1.out _ [.slice av1 (2 * d + 3) cv1] rfl (.inr ⟨⟨w1.heap.size, 0, none⟩, 1, rfl, cell_one_new _ _ _⟩) ?_ ?_ ?_ ?_ ?_
               · intro u hu; rw [List.mem_singleton.1 hu]; rfl
               · simp [maxLen]; omega
               · simp; omega
               · simp; omega
               intro v2 w2 ho2 hg2
               obtain ⟨⟨a2, c2, rfl⟩, c3, c4, c5⟩ := P4.out _ _ ho2 hg2
               have C5 := hid c5
               clear ho2 hg2 c5))
          all_goals go_wp2
          all_goals go_meet
          all_goals exact ⟨_, C5.out⟩
        case rest =>
          obtain ⟨vR', hP'⟩ := hcut
          have HP' := hid hP'
          clear HP hP'
          go_wp2
          have hRI := hid (RI_start aa bb o d r HRV.out)
          go_loopg [10, 12] (d + 1) (fun gm ed kv wr => ∃ (j : Nat) (k : Int) (r' : Nat → Int), gm + j = d + 1 ∧ k = -(d : Int) + 2 * j ∧ ed = .int .i64 (-1) ∧ kv = .int .i64 k ∧ Ph1 aa bb w wr o N (d + 1) r' vR' ∧ RI aa bb o d k r')
          case atStart => exact ⟨0, _, r, rfl, by omega, rfl, rfl, HP'.out, hRI.out⟩
          case round =>
            clear HP' hRI
            obtain ⟨j, k, r', hgj, hkj, rfl, rfl, hP', hRI'⟩ := hrel
            have HP' := hid hP'
            have HRI := hid hRI'
            have hk0 : -(d : Int) ≤ k := by omega
            have hjd : j ≤ d + 1 := by omega
            have HKJ := hid hkj
            clear hP' hRI' hkj
            by_cases hkd : k ≤ d
            · have hv : Hid (Vd d k) := ⟨hk0, hkd, HRI.out.par⟩
              obtain ⟨q, hq⟩ : ∃ q : Nat, (o : Int) + k = q := ⟨((o : Int) + k).toNat, by omega⟩
              have HQ := hid hq
              have e1 : ((o : Int) + k - 1).toNat = q - 1 := by omega
              have e2 : ((o : Int) + k + 1).toNat = q + 1 := by omega
              have i1 : 1 ≤ q := by omega
              have i2 : q + 1 < N := by omega
              have i5 : k ≤ 16384 := by omega
              have i6 : -16384 ≤ k := by omega
              have HPL := hid (pick_left aa bb o d r' k HRI.out hv.out)
              have HPR := hid (pick_right aa bb o d r' k HRI.out hv.out)
              rw [e1, e2] at HPL HPR
              clear e1 e2
              have b1 := HRI.out.bnd (q - 1)
              have b2 := HRI.out.bnd (q + 1)
              have c1 := HP'.out.reach.icell (q - 1) (by omega)
              have c2 := HP'.out.reach.icell (q + 1) (by omega)
              generalize r' (q - 1) = x1 at *
              generalize r' (q + 1) = x2 at *
              obtain ⟨b11, b12⟩ := b1
              obtain ⟨b21, b22⟩ := b2
              go_wp2
              generalize hB : decide (k = -(d : Int) ∨ (k ≠ (d : Int) ∧ x1 < x2)) = B
              have HB' := hid hB
              clear hB
              go_cut [110] (fun t wc => t = .bool B ∧ ∃ n, wc = wr.drewN n)
              case first =>
                by_cases g1 : k = -(d : Int)
                · have g1' : (k == -(d : Int)) = true := by simpa using g1
                  have HB2 := hid (show B = true by rw [← HB'.out]; exact decide_eq_true (Or.inl g1))
                  clear HB' g1
                  go_quiet (fail)
                  go_wp2
                  go_meet
                  exact ⟨by rw [HB2.out], _, rfl⟩
                · have g1' : (k == -(d : Int)) = false := by simpa using g1
                  by_cases g2 : k = (d : Int)
                  · have g2' : (k != (d : Int)) = false := by simpa using g2
                    have HB2 := hid (show B = false by rw [← HB'.out]; exact decide_eq_false (by omega))
                    clear HB' g1 g2
                    go_quiet (fail)
                    go_wp2
                    go_meet
                    exact ⟨by rw [HB2.out], _, rfl⟩
                  · have g2' : (k != (d : Int)) = true := by simpa using g2
                    have HB2 := hid (show B = decide (x1 < x2) by rw [← HB'.out]; exact decide_eq_decide.2 (by omega))
                    clear HB' g1 g2
                    go_quiet (fail)
                    go_wp2
                    go_meet
                    exact ⟨by rw [HB2.out], _, rfl⟩
              case rest =>
                obtain ⟨rfl, nq, rfl⟩ := hcut
                have HP2 := hid (HP'.out.drewN nq)
                clear HP'
                have c2' : (wr.drewN nq).cell? ⟨w.heap.size, q + 1, none⟩ = some (.int .i64 x2) := c2
                clear c1 c2
                generalize wr.drewN nq = wq at *
                obtain ⟨sx, hsx⟩ : ∃ sx, sx = st aa bb d k := ⟨_, rfl⟩
                have HSX := hid hsx
                rw [← hsx] at HPL HPR
                have hsb := st_pos aa bb d k hv.out
                rw [← hsx] at hsb
                obtain ⟨s1, s2, s3, s4⟩ := hsb
                clear hsx
                go_upto_if 110 with (fail)
                go_cut [13] (fun xv wc => xv = .int .i64 sx ∧ wq = wc)
                case first =>
                  cases hBB : B with
                  | true =>
                    have HE := hid (show x2 = sx from HPR.out (of_decide_eq_true (HB'.out.trans hBB)))
                    clear HB' hBB
                    go_wp2
                    go_meet
                    exact ⟨by rw [HE.out], rfl⟩
                  | false =>
                    have hn := of_decide_eq_false (HB'.out.trans hBB)
                    have HE := hid (show x1 + 1 = sx from HPL.out (by omega) (by omega))
                    clear HB' hBB hn
                    go_wp2
                    go_meet
                    exact ⟨by rw [HE.out], rfl⟩
                case rest =>
                  obtain ⟨rfl, rfl⟩ := hcut
                  clear HB' HPL HPR c2' b11 b12 b21 b22
                  go_wp2
                  go_loopg [13, 14] (aa.length - sx.toNat) (fun gm xv yv wr => ∃ xn yn : Nat, gm = aa.length - xn ∧ xv = .int .i64 xn ∧ yv = .int .i64 yn ∧ (xn : Int) - k = yn ∧ sx ≤ xn ∧ xn ≤ 16384 ∧ (∀ i : Int, sx ≤ i → i < xn → same aa bb i (i - k) = true) ∧ Ph1 aa bb w wr o N (d + 1) r' vR')
                  case atStart => exact ⟨sx.toNat, (sx - k).toNat, rfl, by rw [Int.toNat_of_nonneg s1], by rw [Int.toNat_of_nonneg (by omega)], by omega, by omega, by omega, fun i h1 h2 => by omega, HP2.out⟩
                  case round =>
                    clear HP2
                    obtain ⟨xn, yn, rfl, rfl, rfl, hyn, hsx1, hx3, hsame, hP⟩ := hrel
                    have HP := hid hP
                    have HSM := hid hsame
                    have HYN := hid hyn
                    have y1 : yn ≤ 32768 := by omega
                    clear hP hsame hyn
                    generalize hS : same aa bb xn yn = S
                    have HS := hid hS
                    clear hS
                    go_wp2
                    go_cut [139] (fun t wc => t = .bool S ∧ ∃ n, wc = wr.drewN n)
                    case first =>
                      by_cases gx : xn < aa.length
                      · by_cases gy : yn < bb.length
                        · obtain ⟨ba, oa, rfl, hca⟩ := HA.out xn gx
                          obtain ⟨bb', ob, rfl, hcb⟩ := HB.out yn gy
                          have hca' : wr.cell? ⟨ba, oa + xn, none⟩ = some (.string aa[xn]) := by rw [HP.out.below.cell (p := ⟨ba, oa + xn, none⟩) (World.block_lt_of_cell? _ _ hca)]; exact hca
                          have hcb' : wr.cell? ⟨bb', ob + yn, none⟩ = some (.string bb[yn]) := by rw [HP.out.below.cell (p := ⟨bb', ob + yn, none⟩) (World.block_lt_of_cell? _ _ hcb)]; exact hcb
                          clear hca hcb
                          have gx' : (xn : Int) < aa.length := by omega
                          have gy' : (yn : Int) < bb.length := by omega
                          have HE := hid (show S = decide (aa[xn] = bb[yn]) by
                            rw [← HS.out]; unfold same
                            rw [My.eqAt_iff (by simpa using gx) (by simpa using gy)]; simp)
                          go_quiet (fail)
                          go_wp2
                          go_meet
                          exact ⟨by rw [HE.out, bytes_eq], _, rfl⟩
                        · have HE := hid (show S = false by
                            rw [← HS.out]; apply Bool.eq_false_iff.2; intro hc; have := My.same_lt hc; omega)
                          have gx' : (xn : Int) < aa.length := by omega
                          have gy' : decide ((yn : Int) < bb.length) = false := by simpa using gy
                          go_quiet (fail)
                          go_wp2
                          go_meet
                          exact ⟨by rw [HE.out], _, rfl⟩
                      · have HE := hid (show S = false by
                          rw [← HS.out]; apply Bool.eq_false_iff.2; intro hc; have := My.same_lt hc; omega)
                        have gx' : decide ((xn : Int) < aa.length) = false := by simpa using gx
                        go_quiet (fail)
                        go_wp2
                        go_meet
                        exact ⟨by rw [HE.out], _, rfl⟩
                    case rest =>
                      obtain ⟨rfl, nq, rfl⟩ := hcut
                      have HP3 := hid (HP.out.drewN nq)
                      clear HP
                      generalize wr.drewN nq = wq at *
                      cases hSS : S with
                      | true =>
                        have hss := HS.out.trans hSS
                        have hlt := My.same_lt hss
                        have HSM2 := hid (show ∀ i : Int, sx ≤ i → i < ((xn + 1 : Nat) : Int) → same aa bb i (i - k) = true from fun i h1 h2 => by
                          by_cases e : i < xn
                          · exact HSM.out i h1 e
                          · obtain rfl : i = xn := by omega
                            rw [HYN.out]; exact hss)
                        clear hss HSM HS
                        go_wp2
                        go_roundg (aa.length - (xn + 1))
                        case measure => omega
                        case rel => exact ⟨xn + 1, yn + 1, rfl, by go_num, by go_num, by have := HYN.out; omega, by omega, by omega, HSM2.out, HP3.out⟩
                      | false =>
                        have HF := hid (show F aa bb d k = xn by
                          rw [F_st aa bb d k hv.out, ← HSX.out]
                          refine My.sn_unique aa bb k sx xn s1 hsx1 HSM.out ?_
                          rw [HYN.out, HS.out, hSS]; simp)
                        clear hSS HSM HS
                        have cq := HP3.out.reach.icell q (by omega)
                        have fq := HP3.out.reach.frozen q
                        go_wp2
                        · have g1 : (aa.length : Int) ≤ xn := by omega
                          have g2 : (bb.length : Int) ≤ yn := by omega
                          have hF := HF.out
                          have hE := My.F_end aa bb d k hv.out (by rw [hF]; exact g1) (by rw [hF, HYN.out]; exact g2)
                          have hDD := HDD.out
                          obtain rfl : d = dd := by omega
                          go_roundg 1
                          case measure => omega
                          case rel => exact ⟨d + 1, _, vR', by omega, by go_num, HP3.out.store xn, .inr ⟨rfl, rfl, by omega⟩⟩
                        all_goals
                          have hF := HF.out
                          have hno : ¬ ((aa.length : Int) ≤ F aa bb d k ∧ (bb.length : Int) ≤ F aa bb d k - k) := by rw [hF, HYN.out]; omega
                          have hst := RI_step aa bb o d k r' HRI.out (by omega) (by omega) hkd (by omega) hno
                          rw [hF] at hst
                          have eq : ((o : Int) + k).toNat = q := by omega
                          rw [eq] at hst
                          have hKJ := HKJ.out
                          go_roundg (d + 1 - (j + 1))
                          case measure => omega
                          case rel => exact ⟨j + 1, k + 2, _, by omega, by omega, rfl, rfl, HP3.out.store xn, hst⟩
            · 
              have hE := RI_end aa bb o d k r' HRI.out (by omega) (by have := HDD.out; omega)
              obtain ⟨hE1, hE2⟩ := hE
              have hE3 : d + 1 ≤ dd := by have := HDD.out; omega
              go_wp2
              go_roundg (dd + 2 - (d + 1))
              case measure => omega
              case rel => exact ⟨d + 1, _, vR', by omega, by go_num, HP'.out, .inl ⟨rfl, hE3, hE1⟩⟩

    · have HP := hid hP
      have HD11 := hid hd11
      obtain ⟨d0, hd0⟩ : ∃ d0, d0 = d := ⟨_, rfl⟩
      subst hd0
      clear hP hd11
      go_upto_region 7 with (fail)
      go_cut [43] (fun t wc => t = .bool false ∧ wr = wc)
      case first =>
        go_wp2
        all_goals go_meet
        all_goals exact ⟨rfl, rfl⟩
      case rest =>
        obtain ⟨rfl, rfl⟩ := hcut
        obtain ⟨w2, hw2⟩ : ∃ w2, w2 = wr := ⟨_, rfl⟩
        subst hw2
        have hFD := My.F_D aa bb
        have hVD := My.Vd_D aa bb
        rw [← HDD.out] at hFD hVD
        have HFD := hid hFD
        have HVD := hid hVD
        have hbx := HP.out.box.cell 0 (by simp)
        have HBX := hid hbx
        have hrd := HP.out.rds
        rw [HD11.out] at hrd
        have HRD := hid hrd
        clear hFD hVD hbx hrd
        go_wp2
        go_loopg [15, 16, 17, 18] dd (fun gm ov xv yv pv wr => ∃ (d xn yn pd : Nat) (acc : List UInt8), d = gm ∧ xv = .int .i64 xn ∧ yv = .int .i64 yn ∧ pv = .pointer (some ⟨pd, 0, none⟩) ∧ Vd d ((xn : Int) - yn) ∧ F aa bb d ((xn : Int) - yn) = xn ∧
          xn ≤ aa.length ∧ yn ≤ bb.length ∧ d ≤ dd ∧ acc ++ back aa bb d ((xn : Int) - yn) = back aa bb dd ((aa.length : Int) - bb.length) ∧ acc.length + xn + yn ≤ aa.length + bb.length ∧ Ph2 w2 wr pd d ov acc)
        case atStart =>
          exact ⟨dd, aa.length, bb.length, w2.heap.size, [], rfl, rfl, rfl, rfl, HVD.out, HFD.out, by omega, by omega, by omega, by simp, by simp, (Below.refl _ _).alloc (Nat.le_refl _) _, Blk.new w2 3 [.int .i64 dd], by omega, World.ownsRow_nil _ _ _ _⟩
        case round =>
          obtain ⟨d, xn, yn, pd, acc, rfl, rfl, rfl, rfl, hv, hF, hxn, hyn, hd, hacc, hal, hPh⟩ := hrel
          have HV := hid hv
          have HF := hid hF
          have HAC := hid hacc
          have HPH := hid hPh
          have cpd := hPh.box.cell 0 (by simp)
          simp only [List.getElem_cons_zero] at cpd
          clear hv hF hacc hPh
          rcases d with _ | j
          · have hsz := HPH.out.below.size
            have hszw := HP.out.below.size
            have hal2 : acc.length ≤ 16384 := by omega
            have hk0 : (xn : Int) - yn = 0 := by have := HV.out; unfold Vd at this; omega
            have hfull : (acc ++ List.replicate xn 32).reverse = shortestOps aa bb := by
              have h1 := HAC.out
              have h2 := HF.out
              rw [My.back_zero, h2, Int.toNat_natCast] at h1
              rw [h1]; unfold My.shortestOps
              rw [← HDD.out, if_pos hdd]
            have HFU := hid hfull
            clear hk0 hfull
            go_wp2_with (fail)
            refine (repeat_any wr.heap.size 32 xn _ (by omega) ((Blk.new wr 31 [opV 32]).cell 0 (by simp))).mono ?_
            rintro e w1 ⟨v1, rfl, ho1, hb1⟩
            rw [List.length_replicate] at ho1
            have hB1 : Below wr.heap.size wr w1 := ((Below.refl _ wr).alloc (Nat.le_refl _) _).trans (hb1.mono (by simp))
            have HO1 := hid ho1
            have HB1 := hid hB1
            have HOW := hid (ownsRow_below HPH.out.own hB1 (Nat.le_refl _))
            have HSR := hid (owns_Src ho1)
            have hs1 := hB1.size
            clear ho1 hb1 hB1
            have h1 := hid (op_one (List.replicate xn 32))
            have h2 := hid (show acc.length + ((List.replicate xn 32).map opV).length ≤ maxLen by simp [maxLen]; omega)
            have h3 := hid (show (acc.length + ((List.replicate xn 32).map opV).length) * 16 ≤ 140737488355328 by simp; omega)
            have h4 := hid (show w2.heap.size ≤ w1.heap.size by omega)
            go_wp2_with (at_builtin; refine wpList_append1 rfl (.tmp 228) (.tmp 231) 27 rfl w2.heap.size 31 (.string ⟨#[]⟩) 16 Try.underlying27 Try.info31 rfl u15 _ _ rfl HOW.out _ _ rfl HSR.out h1.out h2.out h3.out h4.out ?_; intro v2 w3 ho3 hg3; have HO3 := hid ho3; have HG3 := hid hg3; clear ho3 hg3)
            clear h1 h2 h3 h4
            have hO3 := HO3.out
            rw [← List.map_append, List.length_map, ← List.length_append] at hO3
            refine (reverse_own w2.heap.size v2 (acc ++ List.replicate xn 32) w3 hO3).mono ?_
            rintro e w4 ⟨rfl, ho4, hg4⟩
            have HO4 := hid ho4
            have HG4 := hid hg4
            have HLT := hid hO3.lt
            clear hO3 ho4 hg4
            go_wp2
            go_ret
            have hb3 : Below w2.heap.size w2 w3 := (HPH.out.below.trans (HB1.out.mono (by omega))).grown HG3.out (by omega) (fun q hq => (HOW.out.lt q hq).1)
            have hb4 : Below w2.heap.size w2 w4 := hb3.grown HG4.out hb3.size (fun q hq => (HLT.out q hq).1)
            refine ⟨_, rfl, ?_, HP.out.below.trans (hb4.mono hszw)⟩
            rw [← HFU.out, List.length_reverse]
            exact ownsRow_base HO4.out hszw
          · skip
            have hj1 : ((j + 1 : Nat) : Int) = (j : Int) + 1 := by omega
            rw [hj1] at cpd
            obtain ⟨k, hk⟩ : ∃ k : Int, k = (xn : Int) - yn := ⟨_, rfl⟩
            have HKK := hid hk
            rw [← hk] at HV HF HAC
            have hkb : -(j : Int) - 1 ≤ k ∧ k ≤ (j : Int) + 1 := by have := HV.out; unfold Vd at this; omega
            obtain ⟨hkb1, hkb2⟩ := hkb
            clear hk hj1
            have HBF := hid (fun (W : World) (hW : Below w2.heap.size w2 W) (hp : W.cell? ⟨pd, 0, none⟩ = some (.int .i64 ((j : Int) + 1))) (k' : Int) (hv : Vd j k') => bef (aa := aa) (bb := bb) (W := W) (B2 := w2.heap.size) (pd := pd) (j := j) (k := k') HBX.out HRD.out hW (Nat.le_refl _) hd hdd hp hv)
            obtain ⟨x1, hx1⟩ : ∃ x1, x1 = F aa bb j (k - 1) := ⟨_, rfl⟩
            obtain ⟨x2, hx2⟩ : ∃ x2, x2 = F aa bb j (k + 1) := ⟨_, rfl⟩
            have HX1 := hid hx1
            have HX2 := hid hx2
            clear hx1 hx2
            generalize hB : decide (k = -((j : Int) + 1) ∨ (k ≠ (j : Int) + 1 ∧ x1 < x2)) = B
            have HB' := hid hB
            clear hB
            have ek : (xn : Int) - yn = k := HKK.out.symm
            go_upto_region 33 with (fail)
            go_cut [191] (fun t wc => t = .bool B ∧ ∃ n, wc = wr.drewN n)
            case first =>
              clear ek
              by_cases g1 : k = -((j : Int) + 1)
              · have g1' : (k == -((j : Int) + 1)) = true := by simpa using g1
                have HB2 := hid (show B = true by rw [← HB'.out]; exact decide_eq_true (Or.inl g1))
                clear HB' g1
                go_wp2_with (fail)
                go_meet
                exact ⟨by rw [HB2.out], 0, rfl⟩
              · have g1' : (k == -((j : Int) + 1)) = false := by simpa using g1
                by_cases g2 : k = (j : Int) + 1
                · have g2' : (k != (j : Int) + 1) = false := by simpa using g2
                  have HB2 := hid (show B = false by rw [← HB'.out]; exact decide_eq_false (by omega))
                  clear HB' g1 g2
                  go_wp2_with (fail)
                  go_meet
                  exact ⟨by rw [HB2.out], 0, rfl⟩
                · have g2' : (k != (j : Int) + 1) = true := by simpa using g2
                  have HB2 := hid (show B = decide (x1 < x2) by rw [← HB'.out]; exact decide_eq_decide.2 (by omega))
                  have hpar := HV.out
                  unfold Vd at hpar
                  have HV1 := hid (show Vd j (k - 1) by unfold Vd; omega)
                  have HV2 := hid (show Vd j (k + 1) by unfold Vd; omega)
                  clear HB' g1 g2 hpar
                  go_wp2_with (fail)
                  refine (HBF.out _ HPH.out.below cpd (k - 1) HV1.out).mono ?_
                  rw [← HX1.out]
                  rintro e w1 ⟨rfl, n1, rfl⟩
                  go_wp2_with (fail)
                  refine (HBF.out _ (below_drewN HPH.out.below _) cpd (k + 1) HV2.out).mono ?_
                  rw [← HX2.out]
                  rintro e w1 ⟨rfl, n2, rfl⟩
                  go_wp2_with (fail)
                  go_meet
                  exact ⟨by rw [HB2.out], n1 + n2, rfl⟩
            case rest =>
              obtain ⟨rfl, nq, rfl⟩ := hcut
              have HPH' := hid (HPH.out.drewN nq)
              have cpd' : (wr.drewN nq).cell? ⟨pd, 0, none⟩ = some (.int .i64 ((j : Int) + 1)) := cpd
              clear HPH cpd
              generalize wr.drewN nq = wq at *
              obtain ⟨fr, hfr⟩ : ∃ fr, fr = My.fromK (F aa bb j) j k := ⟨_, rfl⟩
              obtain ⟨sx, hsx⟩ : ∃ sx, sx = My.start (F aa bb j) j k := ⟨_, rfl⟩
              obtain ⟨fx, hfx⟩ : ∃ fx, fx = F aa bb j fr := ⟨_, rfl⟩
              have HFX := hid hfx
              have HSX := hid hsx
              have HFR := hid hfr
              have hcs := My.fromK_cases (F aa bb j) j k HV.out
              rw [← hfr, ← hsx, ← HX1.out, ← HX2.out] at hcs
              have hVf : Vd j fr := by rcases hcs with ⟨h1, h2, _⟩ | ⟨h1, h2, _⟩ <;> rw [h2] <;> exact h1
              have hcs2 : (B = true ∧ fr = k + 1 ∧ sx = fx) ∨ (B = false ∧ fr = k - 1 ∧ sx = fx + 1) := by
                rcases hcs with ⟨_, h2, h3, h4⟩ | ⟨_, h2, h3, h4⟩
                · left; exact ⟨by rw [← HB'.out]; exact decide_eq_true h4, h2, by rw [hfx, h2, h3, HX2.out]⟩
                · right; exact ⟨by rw [← HB'.out]; exact decide_eq_false h4, h2, by rw [hfx, h2, h3, HX1.out]⟩
              have hsle : sx ≤ xn ∧ 0 ≤ sx ∧ k ≤ sx := by
                have h1 := My.start_pos aa bb j k HV.out
                have h2 := My.sn_ge aa bb k sx
                have h3 := HF.out
                rw [My.F_succ, ← hsx] at h3
                rw [← hsx] at h1
                omega
              have hfxp := My.F_pos aa bb j fr hVf
              rw [← hfx] at hfxp
              have HCS := hid hcs2
              have HVf := hid hVf
              obtain ⟨l1, l2, l3⟩ := hsle
              obtain ⟨l4, l5⟩ := hfxp
              have f1 : fr ≤ k + 1 := by omega
              have f2 : k - 1 ≤ fr := by omega
              have f3 : fx ≤ sx := by omega
              have f4 : sx ≤ fx + 1 := by omega
              clear hfx hsx hfr hcs hcs2 hVf HB' HX1 HX2
              go_upto_if 191 with (fail)
              go_cut [21] (fun fv wc => fv = .int .i64 fr ∧ wq = wc)
              case first =>
                rcases HCS.out with ⟨hb1, hb2, _⟩ | ⟨hb1, hb2, _⟩
                · have H2 := hid hb2
                  subst hb1
                  clear hb2
                  go_wp2_with (fail)
                  go_meet
                  exact ⟨by rw [H2.out], rfl⟩
                · have H2 := hid hb2
                  subst hb1
                  clear hb2
                  go_wp2_with (fail)
                  go_meet
                  exact ⟨by rw [H2.out], rfl⟩
              case rest =>
                obtain ⟨rfl, rfl⟩ := hcut
                clear ek
                go_wp2_with (fail)
                refine (HBF.out _ HPH'.out.below cpd' fr HVf.out).mono ?_
                rw [← HFX.out]
                rintro e w1 ⟨rfl, n1, rfl⟩
                have HPH := hid (HPH'.out.drewN n1)
                clear HPH' cpd' HBF
                generalize wq.drewN n1 = ws at *
                go_wp2_with (fail)
                go_loopg [15, 16, 17] (xn - sx.toNat) (fun gm ov xv yv wr => ∃ t xt yt : Nat, gm = xt - sx.toNat ∧ xt + t = xn ∧ yt + t = yn ∧ sx ≤ xt ∧ xv = .int .i64 xt ∧ yv = .int .i64 yt ∧ Ph2 w2 wr pd ((j + 1 : Nat) : Int) ov (acc ++ List.replicate t 32))
                case atStart => exact ⟨0, xn, yn, rfl, rfl, rfl, l1, rfl, rfl, by simpa using HPH.out⟩
                case round =>
                  clear HPH
                  obtain ⟨t, xt, yt, rfl, ht1, ht2, hsx1, rfl, rfl, hPh⟩ := hrel
                  have HPH := hid hPh
                  have HT1 := hid ht1
                  have HT2 := hid ht2
                  have y1 : xt ≤ xn := by omega
                  have y2 : yt ≤ yn := by omega
                  have z1 : (xt : Int) - yt ≤ k := by have := HKK.out; omega
                  have z2 : k ≤ (xt : Int) - yt := by have := HKK.out; omega
                  clear hPh ht1 ht2
                  generalize hG : decide (sx < (xt : Int)) = G
                  have HG := hid hG
                  clear hG
                  go_upto_region 36 with (fail)
                  go_cut [206] (fun t wc => t = .bool G ∧ wr = wc)
                  case first =>
                    rcases HCS.out with ⟨_, hb2, hb3⟩ | ⟨_, hb2, hb3⟩
                    · by_cases g : sx < (xt : Int)
                      · have HG2 := hid (show G = true by rw [← HG.out]; exact decide_eq_true g)
                        have g1 : fx < (xt : Int) := by omega
                        have g2 : fx - fr < (yt : Int) := by omega
                        clear hb2 hb3
                        go_wp2_with (fail)
                        go_meet
                        exact ⟨by rw [HG2.out], rfl⟩
                      · have HG2 := hid (show G = false by rw [← HG.out]; exact decide_eq_false g)
                        have g1 : ¬ fx < (xt : Int) := by omega
                        clear hb2 hb3
                        go_wp2_with (fail)
                        go_meet
                        exact ⟨by rw [HG2.out], rfl⟩
                    · by_cases g : sx < (xt : Int)
                      · have HG2 := hid (show G = true by rw [← HG.out]; exact decide_eq_true g)
                        have g1 : fx < (xt : Int) := by omega
                        have g2 : fx - fr < (yt : Int) := by omega
                        clear hb2 hb3
                        go_wp2_with (fail)
                        go_meet
                        exact ⟨by rw [HG2.out], rfl⟩
                      · have HG2 := hid (show G = false by rw [← HG.out]; exact decide_eq_false g)
                        have g1 : fx < (xt : Int) := by omega
                        have g2 : ¬ fx - fr < (yt : Int) := by omega
                        clear hb2 hb3
                        go_wp2_with (fail)
                        go_meet
                        exact ⟨by rw [HG2.out], rfl⟩
                  case rest =>
                    obtain ⟨rfl, rfl⟩ := hcut
                    have hlen : (acc ++ List.replicate t 32).length ≤ 16384 := by simp; have := HT1.out; omega
                    have hsz := HPH.out.below.size
                    cases hGG : G with
                    | true =>
                      have g := of_decide_eq_true (HG.out.trans hGG)
                      clear HG hGG
                      go_wp2_with (at_builtin; refine wpList_push rfl (.tmp 207) (.tmp 208) rfl 32 rfl rfl HPH.out hlen ?_; intro v1 w1 hn1; have HN1 := hid hn1; clear hn1)
                      go_roundg (xt - 1 - sx.toNat)
                      case measure => omega
                      case rel =>
                        refine ⟨t + 1, xt - 1, yt - 1, rfl, by have := HT1.out; omega, by have := HT2.out; omega, by omega, by go_num, by go_num, ?_⟩
                        have := HN1.out
                        rwa [List.append_assoc, ← List.replicate_succ'] at this
                    | false =>
                      have g := of_decide_eq_false (HG.out.trans hGG)
                      clear HG hGG
                      have hxt : (xt : Int) = sx := by omega
                      have HXT := hid hxt
                      clear hxt
                      rcases HCS.out with ⟨_, hb2, hb3⟩ | ⟨_, hb2, hb3⟩
                      · have HB2 := hid hb2
                        have HB3 := hid hb3
                        have hx : ((xt : Int) == fx) = true := beq_iff_eq.2 (by omega)
                        have hy1 : 0 < yt := by omega
                        clear hb2 hb3
                        go_wp2_with (at_builtin; refine wpList_push rfl (.tmp 217) (.tmp 218) rfl 43 rfl rfl HPH.out hlen ?_; intro v1 w1 hn1; have cbx := hn1.box.cell 0 (by simp); simp only [List.getElem_cons_zero] at cbx; have HN1 := hid hn1; clear hn1)
                        go_roundg j
                        case measure => omega
                        case rel =>
                          have eF : (xt : Int) - ((yt - 1 : Nat) : Int) = fr := by have h1 := HB2.out; have h2 := HKK.out; have h3 := HT1.out; have h4 := HT2.out; omega
                          refine ⟨j, xt, yt - 1, w1.heap.size, acc ++ List.replicate t 32 ++ [43], rfl, rfl, by go_num, rfl, ?_, ?_, by omega, by omega, by omega, ?_, ?_, HN1.out.next j⟩
                          · rw [eF]; exact HVf.out
                          · rw [eF, ← HFX.out, ← HB3.out, ← HXT.out]
                          · rw [eF]; exact back_next HAC.out HF.out (by rw [← HSX.out, HXT.out]) HFR.out HT1.out (by rw [if_pos HB2.out])
                          · have h3 := HT1.out; have h4 := HT2.out; simp; omega
                      · have HB2 := hid hb2
                        have HB3 := hid hb3
                        have hx : ((xt : Int) == fx) = false := beq_eq_false_iff_ne.2 (by omega)
                        have hx1 : 0 < xt := by omega
                        clear hb2 hb3
                        go_wp2_with (at_builtin; refine wpList_push rfl (.tmp 222) (.tmp 223) rfl 45 rfl rfl HPH.out hlen ?_; intro v1 w1 hn1; have cbx := hn1.box.cell 0 (by simp); simp only [List.getElem_cons_zero] at cbx; have HN1 := hid hn1; clear hn1)
                        go_roundg j
                        case measure => omega
                        case rel =>
                          have eF : ((xt - 1 : Nat) : Int) - (yt : Int) = fr := by have h1 := HB2.out; have h2 := HKK.out; have h3 := HT1.out; have h4 := HT2.out; omega
                          refine ⟨j, xt - 1, yt, w1.heap.size, acc ++ List.replicate t 32 ++ [45], rfl, by go_num, rfl, rfl, ?_, ?_, by omega, by omega, by omega, ?_, ?_, HN1.out.next j⟩
                          · rw [eF]; exact HVf.out
                          · rw [eF, ← HFX.out]; have h1 := HB3.out; have h2 := HXT.out; omega
                          · rw [eF]; exact back_next HAC.out HF.out (by rw [← HSX.out, HXT.out]) HFR.out HT1.out (by rw [if_neg (by have := HB2.out; omega)])
                          · have h3 := HT1.out; have h4 := HT2.out; simp; omega
end Go.Proofs.Qxb6602717a
