/-
  THE WALKS OF zzEdits, ZZshortest, zzb1Changes.
-/
import Derived.Test.Qxb6603052aW5
namespace Go.Proofs.Qxb6603052a
open Go.RowKit
open My (F D L Vd sn back shortestOps play same eqAt)

section
variable {α : Type}
def fl (f : α → Value) (z : Value) (es : List α) (i : Nat) : List Value := (es.take i).map f ++ List.replicate (es.length - i) z
theorem fl_length (f : α → Value) (z : Value) (es : List α) (i : Nat) (h : i ≤ es.length) : (fl f z es i).length = es.length := by simp [fl]; omega
theorem fl_zero (f : α → Value) (z : Value) (es : List α) : fl f z es 0 = List.replicate es.length z := by simp [fl]
theorem fl_all (f : α → Value) (z : Value) (es : List α) : fl f z es es.length = es.map f := by simp [fl]
theorem fl_set (f : α → Value) (z : Value) (es : List α) (i : Nat) (e : α) (h : es[i]? = some e) : (fl f z es i).set i (f e) = fl f z es (i + 1) := by
  have hi := (List.getElem?_eq_some_iff.1 h).1
  unfold fl
  rw [show es.length - i = (es.length - (i + 1)) + 1 by omega, List.replicate_succ, List.set_append_right _ _ (by simp; omega)]
  rw [show i - ((es.take i).map f).length = 0 by simp; omega, List.set_cons_zero, List.take_add_one, h]
  simp
end

theorem len_cnt (l : List UInt8) : l.length ≤ cntA l + cntB l := by
  induction l with
  | nil => simp
  | cons o l ih =>
    rw [cntA_cons, cntB_cons, List.length_cons]
    by_cases h : o = 43
    · have h2 : ¬ o = 45 := by rw [h]; decide
      rw [if_pos h, if_neg h2]; omega
    · rw [if_neg h]; omega

def kV (e : Ed) : Value := .int .u8 e.1.toNat
def lV (e : Ed) : Value := .string e.2

/-- The edits as two slices, laid anew. -/
def Zz (w : World) (es : List Ed) (e : Ending) (w' : World) : Prop :=
  ∃ gk gl, e = .returned (.tuple #[.slice (some ⟨gk, 0, none⟩) es.length es.length, .slice (some ⟨gl, 0, none⟩) es.length es.length]) ∧ w.heap.size ≤ gk ∧ w.heap.size ≤ gl ∧ Blk w' gk 5 (es.map kV) ∧ Blk w' gl 9 (es.map lV) ∧ Below w.heap.size w w'

theorem Try.info5 : (Try.prog.info? 5).map (fun i => (i.zero, i.size, i.bytes)) = some (some (.int .u8 0), 1, 1) := by kernel_rfl
theorem Try.underlying26' : Try.prog.underlying 26 = some (.slice 5) := by kernel_rfl

set_option maxHeartbeats 2000000 in
set_option maxRecDepth 100000 in
theorem zzEdits_any (B : Nat) (v : Value) (es : List Ed) (w : World) (hl : es.length ≤ 60000) (h : ERow w B v es) : Calls Try.prog 18 #[v] w (Zz w es) := by
  obtain ⟨a, c, rfl, hc1, hc2⟩ := h.form
  have HE := hid h
  obtain ⟨M, hM⟩ : ∃ M, es.length = M := ⟨_, rfl⟩
  have HM := hid hM
  rw [hM] at hl hc1 ⊢
  clear h hM
  have hmk := run_make_row' (P := Try.prog) 26 5 (.int .u8 0) 1 Try.underlying26' Try.info5 rfl .i64 .i64 M (by omega) (by omega)
  have hmk2 := run_make_row' (P := Try.prog) 22 9 (.string ⟨#[]⟩) 16 Try.underlying22 Try.info9 rfl .i64 .i64 M (by omega) (by omega)
  go_enter Try.func18, Try.ntmps18
  go_wp2
  clear hmk hmk2
  go_loopg [6] M (fun gm iv wr => ∃ i : Nat, gm = M - i ∧ i ≤ M ∧ iv = .int .i64 i ∧ Blk wr w.heap.size 5 (fl kV (.int .u8 0) es i) ∧ Blk wr (w.heap.size + 1) 9 (fl lV (.string ⟨#[]⟩) es i) ∧ Below w.heap.size w wr)
  case atStart =>
    refine ⟨0, rfl, by omega, rfl, ?_, ?_, ((Below.refl _ w).alloc (Nat.le_refl _) _).alloc (by simp) _⟩
    · rw [fl_zero, HM.out]; exact (Blk.made w 5 _ _).alloc _
    · rw [fl_zero, HM.out]; have := Blk.made (w.alloc (.cells (madeCells #[.int .u8 0] M) 5)) 9 (.string ⟨#[]⟩) M; simpa using this
  case round =>
    obtain ⟨i, rfl, hi, rfl, hK, hL, hB⟩ := hrel
    have HK := hid hK
    have HL := hid hL
    have HB := hid hB
    by_cases hlt : i < M
    · have hil : i < es.length := by rw [HM.out]; exact hlt
      obtain ⟨e, he⟩ : ∃ e, es[i]? = some e := ⟨es[i], List.getElem?_eq_getElem hil⟩
      obtain ⟨g, rfl, hg, g0, g1⟩ := HE.out.cell i e he
      have lg := World.block_lt_of_cell? _ _ g0
      have c0 : wr.cell? ⟨g, i * 2, none⟩ = some (.int .u8 e.1.toNat) := by rw [hB.cell (p := ⟨g, i * 2, none⟩) lg]; exact g0
      have c1 : ∀ u, (wr.setCell ⟨w.heap.size, i, none⟩ u).cell? ⟨g, i * 2 + 1, none⟩ = some (.string e.2) := fun u => by
        rw [(show Below w.heap.size w (wr.setCell ⟨w.heap.size, i, none⟩ u) from hB.setCell (Nat.le_refl _) u).cell (p := ⟨g, i * 2 + 1, none⟩) lg]; exact g1
      obtain ⟨kv0, k0⟩ : ∃ x, wr.cell? ⟨w.heap.size, i, none⟩ = some x := ⟨_, hK.cell i (by rw [fl_length _ _ _ _ (by rw [HM.out]; omega)]; exact hil)⟩
      have kf := hK.frozen i
      obtain ⟨lv0, l0⟩ : ∃ x, ∀ u, (wr.setCell ⟨w.heap.size, i, none⟩ u).cell? ⟨w.heap.size + 1, i, none⟩ = some x := ⟨_, fun u => (hL.setOther ⟨w.heap.size, i, none⟩ u (by simp)).cell i (by rw [fl_length _ _ _ _ (by rw [HM.out]; omega)]; exact hil)⟩
      have lf := fun u => (hL.setOther ⟨w.heap.size, i, none⟩ u (by simp)).frozen i
      have hlt1 : (i : Int) < M := by omega
      have HEE := hid he
      clear he hil g0 g1 hK hL hB
      go_wp2
      go_roundg (M - (i + 1))
      case measure => omega
      case rel =>
        refine ⟨i + 1, rfl, by omega, by go_num, ?_, ?_, (HB.out.setCell (Nat.le_refl _) _).setCell (by simp) _⟩
        · rw [← fl_set _ _ _ _ _ HEE.out]; exact (HK.out.set i _).setOther _ _ (by simp)
        · rw [← fl_set _ _ _ _ _ HEE.out]; exact (HL.out.setOther _ _ (by simp)).set i _
    · obtain rfl : i = M := by omega
      have hlt1 : ¬ (i : Int) < i := by omega
      clear hK hL hB
      go_wp2
      go_ret2
      have hir : i = es.length := HM.out.symm
      refine ⟨w.heap.size, w.heap.size + 1, by rw [HM.out]; rfl, Nat.le_refl _, by omega, ?_, ?_, HB.out⟩
      · rw [← fl_all kV (.int .u8 0), ← hir]; exact HK.out
      · rw [← fl_all lV (.string ⟨#[]⟩), ← hir]; exact HL.out

set_option maxHeartbeats 2000000 in
theorem zzShortest_any (a b : Option Addr) (ca cb : Nat) (aa bb : List ByteArray) (w : World) (hla : aa.length ≤ 8192) (hlb : bb.length ≤ 8192) (ha : SAt w a aa) (hb : SAt w b bb) :
    Calls Try.prog 9 #[.slice a aa.length ca, .slice b bb.length cb] w (Zz w (lay aa bb (shortestOps aa bb) 0 0)) := by
  have HSH := hid (shortest_any a b ca cb aa bb w hla hlb ha hb)
  have hlen : (lay aa bb (shortestOps aa bb) 0 0).length ≤ 60000 := by
    rw [lay_length]
    have h1 := play_cnt aa bb _ 0 0 _ (My.shortest_plays aa bb)
    have h2 := len_cnt (shortestOps aa bb)
    simp only [Nat.zero_add, Prod.mk.injEq] at h1
    omega
  clear ha hb
  go_enter Try.func9, Try.ntmps9
  go_wp2_with (fail)
  refine HSH.out.mono ?_
  rintro e w1 ⟨v, rfl, ho, hb1⟩
  have HB1 := hid hb1
  have HZ := hid (zzEdits_any _ v _ w1 hlen ho)
  clear ho hb1 HSH
  go_wp2_with (fail)
  refine HZ.out.mono ?_
  rintro e w2 ⟨gk, gl, rfl, h1, h2, h3, h4, h5⟩
  have H3 := hid h3
  have H4 := hid h4
  have H5 := hid h5
  clear h3 h4 h5 HZ
  go_wp2_with (fail)
  go_ret2
  exact ⟨gk, gl, rfl, Nat.le_trans HB1.out.size h1, Nat.le_trans HB1.out.size h2, H3.out, H4.out, HB1.out.trans (H5.out.mono HB1.out.size)⟩

def RetN' (x : Nat) (w : World) (e : Ending) (w' : World) : Prop := e = .returned (.int .i64 x) ∧ w = w'

set_option maxHeartbeats 2000000 in
theorem changes_any (g c : Nat) (ks : List UInt8) (w : World) (hl : ks.length ≤ 60000) (h : ∀ i o, ks[i]? = some o → w.cell? ⟨g, i, none⟩ = some (.int .u8 o.toNat)) :
    Calls Try.prog 12 #[.slice (some ⟨g, 0, none⟩) ks.length c] w (RetN' (ks.countP (fun o => o != 32)) w) := by
  have HC := hid h
  clear h
  go_enter Try.func12, Try.ntmps12
  go_wp2
  go_loopg [3, 4] ks.length (fun gm cv iv wr => ∃ i n : Nat, gm = ks.length - i ∧ i ≤ ks.length ∧ n = (ks.take i).countP (fun o => o != 32) ∧ n ≤ i ∧ cv = .int .i64 n ∧ iv = .int .i64 i ∧ w = wr)
  case atStart => exact ⟨0, 0, rfl, by omega, rfl, by omega, rfl, rfl, rfl⟩
  case round =>
    obtain ⟨i, n, rfl, hi, hn, hni, rfl, rfl, rfl⟩ := hrel
    have HN := hid hn
    by_cases hlt : i < ks.length
    · obtain ⟨o, ho⟩ : ∃ o, ks[i]? = some o := ⟨ks[i], List.getElem?_eq_getElem hlt⟩
      have c0 := HC.out i o ho
      have HNX := hid (show (ks.take (i + 1)).countP (fun o => o != 32) = n + if o = 32 then 0 else 1 by
        rw [List.take_add_one, ho, List.countP_append, hn]
        by_cases e : o = 32 <;> simp [e])
      have hlt1 : (i : Int) < ks.length := by omega
      clear hn ho
      by_cases e : o = 32
      · have HE := hid e
        have k1 : (((o.toNat : Nat) : Int) == 32) = true := by rw [e]; rfl
        clear e
        go_wp2
        go_roundg (ks.length - (i + 1))
        case measure => omega
        case rel => exact ⟨i + 1, n, rfl, by omega, by rw [HNX.out, if_pos HE.out]; rfl, by omega, rfl, by go_num, rfl⟩
      · have HE := hid e
        have k1 : (((o.toNat : Nat) : Int) == 32) = false := by
          apply beq_eq_false_iff_ne.2
          intro h
          exact e (by apply UInt8.toNat.inj; have : o.toNat = 32 := by omega
                      exact this)
        clear e
        go_wp2
        go_roundg (ks.length - (i + 1))
        case measure => omega
        case rel => exact ⟨i + 1, n + 1, rfl, by omega, by rw [HNX.out, if_neg HE.out], by omega, by go_num, by go_num, rfl⟩
    · have hlt1 : ¬ (i : Int) < ks.length := by omega
      have HE := hid (show (ks.take i).countP (fun o => o != 32) = ks.countP (fun o => o != 32) by rw [List.take_of_length_le (by omega)])
      clear hn
      go_wp2
      go_ret
      exact ⟨by rw [← HE.out, ← HN.out]; rfl, rfl⟩
end Go.Proofs.Qxb6603052a
