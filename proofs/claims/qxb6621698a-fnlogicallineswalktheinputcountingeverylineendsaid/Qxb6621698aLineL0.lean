/-
  What logicalLine's walk stands on.
-/
import Derived.Test.Qxb6621698aLineC
import Derived.Deep.DeepCutAuto
namespace Go.Proofs.Qxb6621698a
open Go.RowKit

theorem info5 : (Try.prog.info? 5).map (fun i => (i.zero, i.size, i.bytes)) = some (some (.int .u8 0), 1, 1) := by kernel_rfl
theorem info3 : (Try.prog.info? 3).map (fun i => (i.zero, i.size, i.bytes)) = some (some (.int .i64 0), 1, 8) := by kernel_rfl

/-- A slice value that holds the numbers T. -/
def RowV (k : IntKind) (w : World) (v : Value) (T : List Int) : Prop := ∃ a c, v = .slice a T.length c ∧ Row k w w.heap.size a T

/-- What logicalLine leaves. -/
def LogR (D : List Int) (w : World) (sb : Nat) (a : Option Addr) (n c p : Nat) (l : Int) (k : Nat) (e : Ending) (w' : World) : Prop :=
  ∃ T J p' c' vt vj, e = .returned (.agg #[vt, .int .i64 (lnx l k), vj]) ∧ Runs D p [] [] 0 (T, J, p', c') ∧ Scan w' sb a n c p' (lnx l (k + c')) ∧ RowV .u8 w' vt T ∧ RowV .i64 w' vj J ∧ Fr (fun i => i = sb) w w'

/-- The world inside logicalLine: the scanner; the result's block H; the variable l in block H + 1. -/
structure LS (w : World) (H sb : Nat) (a : Option Addr) (n c : Nat) (ln : Int) (D : List Int) (q : Nat) (lq : Int) (vt vj : Value) (wc : World) : Prop where
  scan : Scan wc sb a n c q lq
  res : wc.heap[H]? = some (.cells #[.slice none 0 0, .int .i64 0, .slice none 0 0] 50 (0, 0))
  var : wc.heap[H + 1]? = some (.cells #[vt, .int .i64 ln, vj] 50 (0, 0))
  fr : Fr (fun i => i = sb) w wc
  base : w.heap.size = H
  row : Row .u8 wc sb a D
  low : sb < H

theorem LS.size {w : World} {H sb : Nat} {a : Option Addr} {n c : Nat} {ln : Int} {D : List Int} {q : Nat} {lq : Int} {vt vj : Value} {wc : World} (h : LS w H sb a n c ln D q lq vt vj wc) : H + 2 ≤ wc.heap.size := lt_of_heap h.var

/-- A step that turns none of these blocks. -/
theorem LS.keep {w : World} {H sb : Nat} {a : Option Addr} {n c : Nat} {ln : Int} {D : List Int} {q : Nat} {lq : Int} {vt vj : Value} {wc w' : World} {bad : Nat → Prop} (h : LS w H sb a n c ln D q lq vt vj wc) (f : Fr bad wc w') (hb : ∀ i, i < H + 2 → ¬ bad i) : LS w H sb a n c ln D q lq vt vj w' := by
  have hl := h.low
  exact ⟨h.scan.fr f (hb _ (by omega)), f.heap h.res (hb _ (by omega)), f.heap h.var (hb _ (by omega)), h.fr.trans' f (fun i hi hbad => absurd hbad (hb i (by have := h.base; omega))), h.base, h.row.fr f (fun i hi => hb i (by omega)), h.low⟩
theorem LS.quiet {w : World} {H sb : Nat} {a : Option Addr} {n c : Nat} {ln : Int} {D : List Int} {q : Nat} {lq : Int} {vt vj : Value} {wc w' : World} (h : LS w H sb a n c ln D q lq vt vj wc) (f : Fr (fun _ => False) wc w') : LS w H sb a n c ln D q lq vt vj w' := h.keep f (fun _ _ => id)

theorem LS.skip {w : World} {H sb : Nat} {a : Option Addr} {n c : Nat} {ln : Int} {D : List Int} {q q' : Nat} {lq lq' : Int} {vt vj : Value} {wc w' : World} (h : LS w H sb a n c ln D q lq vt vj wc) (hs : SkipR wc sb a n c q' lq' w') : LS w H sb a n c ln D q' lq' vt vj w' := by
  have hl := h.low
  exact ⟨hs.2, hs.1.heap h.res (by omega), hs.1.heap h.var (by omega), h.fr.trans hs.1, h.base, h.row.fr hs.1 (fun i hi => by omega), h.low⟩

theorem LS.setPos {w : World} {H sb : Nat} {a : Option Addr} {n c : Nat} {ln : Int} {D : List Int} {q : Nat} {lq : Int} {vt vj : Value} {wc : World} (h : LS w H sb a n c ln D q lq vt vj wc) (q' : Nat) (x : Int) (hx : x = (q' : Int)) : LS w H sb a n c ln D q' lq vt vj (wc.setCell ⟨sb, 1, none⟩ (.int .i64 x)) :=
  h.skip ⟨Fr.setCell (bad := fun k => k = sb) (Fr.refl _ _) _ (fun _ => rfl) _, h.scan.set1 q' x hx⟩

theorem LS.setVar {w : World} {H sb : Nat} {a : Option Addr} {n c : Nat} {ln : Int} {D : List Int} {q : Nat} {lq : Int} {vt vj vt' vj' : Value} {wc w' : World} (h : LS w H sb a n c ln D q lq vt vj wc) (f : Fr (fun k => k = H + 1) wc w') (hv : w'.heap[H + 1]? = some (.cells #[vt', .int .i64 ln, vj'] 50 (0, 0))) : LS w H sb a n c ln D q lq vt' vj' w' := by
  have hl := h.low
  exact ⟨h.scan.fr f (by omega), f.heap h.res (by omega), hv, h.fr.trans' f (fun i hi hbad => by have := h.base; omega), h.base, h.row.fr f (fun i hi => by omega), h.low⟩
theorem LS.setText {w : World} {H sb : Nat} {a : Option Addr} {n c : Nat} {ln : Int} {D : List Int} {q : Nat} {lq : Int} {vt vj : Value} {wc : World} (h : LS w H sb a n c ln D q lq vt vj wc) (vt' : Value) : LS w H sb a n c ln D q lq vt' vj (wc.setCell ⟨H + 1, 0, none⟩ vt') :=
  h.setVar (Fr.setCell (bad := fun k => k = H + 1) (Fr.refl _ _) _ (fun _ => rfl) _) (by rw [blk_setCell h.var]; rfl)
theorem LS.setJoins {w : World} {H sb : Nat} {a : Option Addr} {n c : Nat} {ln : Int} {D : List Int} {q : Nat} {lq : Int} {vt vj : Value} {wc : World} (h : LS w H sb a n c ln D q lq vt vj wc) (vj' : Value) : LS w H sb a n c ln D q lq vt vj' (wc.setCell ⟨H + 1, 2, none⟩ vj') :=
  h.setVar (Fr.setCell (bad := fun k => k = H + 1) (Fr.refl _ _) _ (fun _ => rfl) _) (by rw [blk_setCell h.var]; rfl)

theorem heap_two' (w : World) (a b : Obj) : ((w.alloc a).alloc b).heap[w.heap.size + 1]? = some b ∧ ((w.alloc a).alloc b).heap[w.heap.size]? = some a := by
  show ((w.heap.push a).push b)[w.heap.size + 1]? = some b ∧ ((w.heap.push a).push b)[w.heap.size]? = some a
  refine ⟨?_, ?_⟩
  · rw [Array.getElem?_push, if_pos (by simp)]
  · rw [Array.getElem?_push, if_neg (by simp), Array.getElem?_push, if_pos rfl]

theorem LS.make {w : World} {H sb : Nat} {a : Option Addr} {n c p : Nat} {ln : Int} {D : List Int} (hH : w.heap.size = H) (hs : Scan w sb a n c p ln) (hr : Row .u8 w sb a D) :
    LS w H sb a n c ln D p ln (.slice none 0 0) (.slice none 0 0) ((w.alloc (.cells #[.slice none 0 0, .int .i64 0, .slice none 0 0] 50)).alloc (.cells #[.slice none 0 0, .int .i64 ln, .slice none 0 0] 50)) := by
  subst hH
  have f : Fr (fun _ => False) w ((w.alloc (.cells #[.slice none 0 0, .int .i64 0, .slice none 0 0] 50)).alloc (.cells #[.slice none 0 0, .int .i64 ln, .slice none 0 0] 50)) := ((Fr.refl _ _).alloc _).alloc _
  exact ⟨hs.fr f id, (heap_two' w _ _).2, (heap_two' w _ _).1, f.mono (fun _ _ h => h.elim), rfl, hr.fr f (fun _ _ => id), lt_of_heap hs⟩

/-- THE END OF logicalLine: the result is copied into its block. -/
theorem log_end {w wc : World} {H sb : Nat} {a : Option Addr} {n c p : Nat} {l ln : Int} {k : Nat} {D : List Int} {q : Nat} {vt vj : Value} {T J : List Int} {c' : Nat} (h : LS w H sb a n c ln D q (lnx l (k + c')) vt vj wc) (hl : lnx l k = ln) (hr : Runs D p [] [] 0 (T, J, q, c')) (ht : RowV .u8 wc vt T) (hj : RowV .i64 wc vj J) (w' : World) (f : Fr (fun i => i = H) wc w')
    (htb : ∀ x cc i, vt = .slice (some x) i cc → 0 < i → x.block ≠ H) (hjb : ∀ x cc i, vj = .slice (some x) i cc → 0 < i → x.block ≠ H) : LogR D w sb a n c p l k (.returned (.agg #[vt, .int .i64 ln, vj])) w' := by
  have hlo := h.low
  refine ⟨T, J, q, c', vt, vj, by rw [hl], hr, h.scan.fr f (by omega), ?_, ?_, h.fr.trans' f (fun i hi hbad => by have := h.base; omega)⟩
  · obtain ⟨x, cc, hv, hrow⟩ := ht
    refine ⟨x, cc, hv, fun i hi => ?_⟩
    obtain ⟨b, off, hx, hb, hc⟩ := hrow i hi
    exact ⟨b, off, hx, Nat.lt_of_lt_of_le hb f.size, f.cell' hc (fun e => by subst hx; exact htb _ _ _ hv (by omega) e)⟩
  · obtain ⟨x, cc, hv, hrow⟩ := hj
    refine ⟨x, cc, hv, fun i hi => ?_⟩
    obtain ⟨b, off, hx, hb, hc⟩ := hrow i hi
    exact ⟨b, off, hx, Nat.lt_of_lt_of_le hb f.size, f.cell' hc (fun e => by subst hx; exact hjb _ _ _ hv (by omega) e)⟩

theorem Fr.three {w : World} (H : Nat) (x y z : Value) : Fr (fun i => i = H) w (((w.setCell ⟨H, 0, none⟩ x).setCell ⟨H, 1, none⟩ y).setCell ⟨H, 2, none⟩ z) :=
  Fr.setCell (bad := fun k => k = H) (Fr.setCell (bad := fun k => k = H) (Fr.setCell (bad := fun k => k = H) (Fr.refl _ _) _ (fun _ => rfl) _) _ (fun _ => rfl) _) _ (fun _ => rfl) _

theorem rowV_nil (k : IntKind) (w : World) (a : Option Addr) (m c : Nat) (hm : m = 0) : RowV k w (.slice a m c) [] := ⟨a, c, by rw [hm]; rfl, fun i hi => by simp at hi⟩

theorem seg_row {w : World} {B b off p e cc : Nat} {D : List Int} (h : Row .u8 w B (some ⟨b, off, none⟩) D) (hB : B ≤ w.heap.size) (he : e ≤ D.length) : RowV .u8 w (.slice (some ⟨b, off + p, none⟩) (e - p) cc) (seg D p e) := by
  refine ⟨_, cc, by rw [seg_len D p e he], fun i hi => ?_⟩
  rw [seg_len D p e he] at hi
  obtain ⟨b', off', ha, hb, hc⟩ := h (p + i) (by omega)
  simp only [Option.some.injEq, Addr.mk.injEq, and_true] at ha
  obtain ⟨rfl, rfl⟩ := ha
  exact ⟨b, off + p, rfl, by omega, by rw [bt_seg D p e i (by omega), Nat.add_assoc]; exact hc⟩

theorem fast_runs {D : List Int} {p e n : Nat} (hn : n = D.length) (h1 : p ≤ e) (h2 : e ≤ n) (hno : ∀ i, p ≤ i → i < e → isEnd D i = false ∧ bt D i ≠ 92) (he : isEnd D e = true) : Runs D p [] [] 0 (seg D p e, [], skipE D e, incE D e) := by
  refine Runs.stretch h1 (by omega) hno ?_
  have := Runs.stop D e ([] ++ seg D p e) [] 0 he
  rw [List.nil_append, Nat.zero_add] at this
  rw [List.nil_append]
  exact this

/-- THE END OF THE QUICK WAY. -/
theorem fast_end {w w2 : World} {H sb b off n c p e : Nat} {l ln : Int} {k : Nat} {D : List Int} {vt : Value} (h : LS w H sb (some ⟨b, off, none⟩) n c ln D (skipE D e) (lnx l (k + incE D e)) vt (.slice none 0 0) w2) (hl : lnx l k = ln) (hn : n = D.length) (h1 : p ≤ e) (h2 : e ≤ n) (hnc : n ≤ c)
    (hno : ∀ i, p ≤ i → i < e → isEnd D i = false ∧ bt D i ≠ 92) (he : isEnd D e = true) (hv : (c = p ∧ vt = .slice (some ⟨b, off, none⟩) (e - p) 0) ∨ vt = .slice (some ⟨b, off + p, none⟩) (e - p) (c - p)) (w' : World) (f : Fr (fun i => i = H) w2 w') :
    LogR D w sb (some ⟨b, off, none⟩) n c p l k (.returned (.agg #[vt, .int .i64 ln, .slice none 0 0])) w' := by
  have hlow := h.low
  have hsz := h.size
  refine log_end h hl (fast_runs hn h1 h2 hno he) ?_ (rowV_nil _ _ _ _ _ rfl) w' f ?_ (fun x cc i hx hi => by simp at hx)
  · rcases hv with ⟨hcp, rfl⟩ | rfl
    · obtain rfl : e = p := by omega
      rw [seg_nil]
      exact rowV_nil _ _ _ _ _ (by omega)
    · exact seg_row h.row (by omega) (by omega)
  · intro x cc i hx hi
    have key : x.block = b ∧ i = e - p := by
      rcases hv with ⟨_, rfl⟩ | rfl <;> simp only [Value.slice.injEq, Option.some.injEq] at hx <;> exact ⟨by rw [← hx.1], hx.2.1.symm⟩
    obtain ⟨b', off', ha, hb, hc⟩ := h.row p (by omega)
    simp only [Option.some.injEq, Addr.mk.injEq, and_true] at ha
    have := ha.1
    omega

/-- The second loop's relation: g rounds at most are to come. -/
def SlowR (D : List Int) (w : World) (H sb : Nat) (a : Option Addr) (n c p : Nat) (l : Int) (k : Nat) (ln : Int) (g : Nat) (wr : World) : Prop :=
  ∃ (q : Nat) (T J : List Int) (cc : Nat) (vt vj : Value), q ≤ n ∧ g = n - q ∧ (∀ r, Runs D q T J cc r → Runs D p [] [] 0 r) ∧ LS w H sb a n c ln D q (lnx l (k + cc)) vt vj wr ∧
    wr.ownsRow (H + 2) 5 1 vt T.length (T.map (Value.int .u8)) ∧ wr.ownsRow (H + 2) 3 1 vj J.length (J.map (Value.int .i64)) ∧ T.length ≤ q ∧ J.length ≤ q

theorem text_step {w W0 w1 : World} {H sb : Nat} {a : Option Addr} {n c : Nat} {ln lq : Int} {D : List Int} {q N M N' : Nat} {vt vj v' : Value} {xs ys xs' : List Value} (h : LS w H sb a n c ln D q lq vt vj W0)
    (ot : W0.ownsRow (H + 2) 5 1 vt N xs) (oj : W0.ownsRow (H + 2) 3 1 vj M ys) (hown : w1.ownsRow (H + 2) 5 1 v' N' xs') (hg : W0.grownBy w1 vt.ownBlock) :
    LS w H sb a n c ln D q lq v' vj (w1.setCell ⟨H + 1, 0, none⟩ v') ∧ (w1.setCell ⟨H + 1, 0, none⟩ v').ownsRow (H + 2) 5 1 v' N' xs' ∧ (w1.setCell ⟨H + 1, 0, none⟩ v').ownsRow (H + 2) 3 1 vj M ys ∧ w1.cell? ⟨H + 1, 0, none⟩ = some vt ∧ w1.frozen? ⟨H + 1, 0, none⟩ = false := by
  have f : Fr (fun k => vt.ownBlock = some k) W0 w1 := (Fr.refl _ _).grown hg (fun k _ hk => hk)
  have h1 := h.keep f (fun i hi hbad => by have := ot.lt i hbad; omega)
  refine ⟨h1.setText v', ownsRow_setCell_below hown (a := ⟨H + 1, 0, none⟩) (by simp) _, ownsRow_setCell_below (f.own oj (fun k hk => own_ne oj ot (by decide) hk)) (a := ⟨H + 1, 0, none⟩) (by simp) _, ?_, free_of_blk h1.var 0⟩
  simp [cell_of_blk h1.var]

theorem joins_step {w W0 w1 : World} {H sb : Nat} {a : Option Addr} {n c : Nat} {ln lq : Int} {D : List Int} {q N M M' : Nat} {vt vj v' : Value} {xs ys ys' : List Value} (h : LS w H sb a n c ln D q lq vt vj W0)
    (ot : W0.ownsRow (H + 2) 5 1 vt N xs) (oj : W0.ownsRow (H + 2) 3 1 vj M ys) (hown : w1.ownsRow (H + 2) 3 1 v' M' ys') (hg : W0.grownBy w1 vj.ownBlock) :
    LS w H sb a n c ln D q lq vt v' (w1.setCell ⟨H + 1, 2, none⟩ v') ∧ (w1.setCell ⟨H + 1, 2, none⟩ v').ownsRow (H + 2) 5 1 vt N xs ∧ (w1.setCell ⟨H + 1, 2, none⟩ v').ownsRow (H + 2) 3 1 v' M' ys' ∧ w1.cell? ⟨H + 1, 2, none⟩ = some vj ∧ w1.frozen? ⟨H + 1, 2, none⟩ = false := by
  have f : Fr (fun k => vj.ownBlock = some k) W0 w1 := (Fr.refl _ _).grown hg (fun k _ hk => hk)
  have h1 := h.keep f (fun i hi hbad => by have := oj.lt i hbad; omega)
  refine ⟨h1.setJoins v', ownsRow_setCell_below (f.own ot (fun k hk => own_ne ot oj (by decide) hk)) (a := ⟨H + 1, 2, none⟩) (by simp) _, ownsRow_setCell_below hown (a := ⟨H + 1, 2, none⟩) (by simp) _, ?_, free_of_blk h1.var 2⟩
  simp [cell_of_blk h1.var]

theorem own_rowV {k : IntKind} {w : World} {base : Nat} {e : TypeId} {v : Value} {T : List Int} (h : w.ownsRow base e 1 v T.length (T.map (Value.int k))) : RowV k w v T := by
  rcases own_shape h with ⟨rfl, hT, _⟩ | ⟨g, cap, rfl, _, hg, _, _⟩
  · rw [List.length_eq_zero_iff.1 hT]
    exact rowV_nil _ _ _ _ _ rfl
  · refine ⟨_, cap, rfl, fun i hi => ⟨g, 0, rfl, hg, ?_⟩⟩
    have := h.cells (g := g) rfl i (.int k (bt T i)) (by rw [List.getElem?_map, List.getElem?_eq_getElem hi]; simp [bt, hi])
    have hadd : (⟨g, 0, none⟩ : Addr).add i = ⟨g, 0 + i, none⟩ := by unfold Addr.add; split <;> simp_all
    rwa [hadd] at this

/-- THE END OF THE SLOW WAY. -/
theorem slow_end {w wr w2 : World} {H sb : Nat} {a : Option Addr} {n c p q cc : Nat} {l ln : Int} {k : Nat} {D T J : List Int} {vt vj : Value} (hk : LS w H sb a n c ln D q (lnx l (k + cc)) vt vj wr) (h : LS w H sb a n c ln D (skipE D q) (lnx l (k + cc + incE D q)) vt vj w2) (f2 : Fr (fun i => i = sb) wr w2) (hl : lnx l k = ln) (hruns : ∀ r, Runs D q T J cc r → Runs D p [] [] 0 r)
    (he : isEnd D q = true) (ot : wr.ownsRow (H + 2) 5 1 vt T.length (T.map (Value.int .u8))) (oj : wr.ownsRow (H + 2) 3 1 vj J.length (J.map (Value.int .i64))) (w' : World) (f : Fr (fun i => i = H) w2 w') :
    LogR D w sb a n c p l k (.returned (.agg #[vt, .int .i64 ln, vj])) w' := by
  have hlow := h.low
  have keep : ∀ {e : TypeId} {v : Value} {m : Nat} {xs : List Value}, wr.ownsRow (H + 2) e 1 v m xs → w2.ownsRow (H + 2) e 1 v m xs := fun {e v m xs} ho => f2.own ho (fun i hi hb => by have := ho.lt i hi; omega)
  rw [Nat.add_assoc] at h
  refine log_end h hl (hruns _ (Runs.stop D q T J cc he)) (own_rowV (keep ot)) (own_rowV (keep oj)) w' f ?_ ?_
  · intro x i y hx hy hb
    subst hx
    have := ot.lt H (by simp [Value.ownBlock, hb])
    omega
  · intro x i y hx hy hb
    subst hx
    have := oj.lt H (by simp [Value.ownBlock, hb])
    omega


/-- What is owned is still owned where only the scanner's block has turned. -/
theorem own_past {wr W0 : World} {H sb : Nat} {e : TypeId} {v : Value} {n m : Nat} {xs : List Value} (hn : Hid (n = m)) (ho : Hid (wr.ownsRow (H + 2) e 1 v n xs)) (hlow : sb < H) (f : Fr (fun i => i = sb) wr W0) : W0.ownsRow (H + 2) e 1 v m xs := by
  rw [← hn.out]
  exact f.own ho.out (fun i hi hb => by have := ho.out.lt i hi; omega)

theorem news_one (w : World) (v : Value) (t : TypeId) (m : Nat) (hm : w.heap.size = m) : ∀ j u, [v][j]? = some u → (w.alloc (.cells #[v] t)).cell? ((⟨m, 0, none⟩ : Addr).add j) = some u := by
  subst hm
  exact World.news_of_block (cs := #[v]) (t := t) (fr := (0, 0)) (heap_alloc_new w _)

/-- The world at the append of one byte: pos has been raised, the byte lies in a block of its own. -/
theorem fr_pos (wr : World) (sb m : Nat) (x : Int) (o : Obj) : Fr (fun i => i = sb) wr (((wr.drewN m).setCell ⟨sb, 1, none⟩ (.int .i64 x)).alloc o) := (Fr.setCell (bad := fun k => k = sb) ((Fr.refl _ _).drewN _) _ (fun _ => rfl) _).alloc _

/-- A BYTE THAT IS NO BACKSLASH IS KEPT. -/
theorem plain_step {w wr w1 : World} {H sb : Nat} {a : Option Addr} {n c p q cc : Nat} {l ln : Int} {k : Nat} {D T J : List Int} {vt vj : Value} {x : Int} {N m gg cap : Nat}
    (hL : Hid (LS w H sb a n c ln D q (lnx l (k + cc)) vt vj wr)) (hruns : Hid (∀ r, Runs D q T J cc r → Runs D p [] [] 0 r)) (ot : Hid (wr.ownsRow (H + 2) 5 1 vt T.length (T.map (Value.int .u8)))) (oj : Hid (wr.ownsRow (H + 2) 3 1 vj J.length (J.map (Value.int .i64))))
    (hT : T.length ≤ q) (hJ : J.length ≤ q) (hlt : q < n) (hend : isEnd D q = false) (hx : Hid (bt D q = x)) (hb : ¬ x = 92) (hN : Hid (T.length = N))
    (hown : w1.ownsRow (H + 2) 5 1 (.slice (some ⟨gg, 0, none⟩) (N + 1) cap) (N + 1) (T.map (Value.int .u8) ++ [.int .u8 x])) (hg : (((wr.drewN m).setCell ⟨sb, 1, none⟩ (.int .i64 ((q : Int) + 1))).alloc (.cells #[.int .u8 x] 5)).grownBy w1 vt.ownBlock) :
    SlowR D w H sb a n c p l k ln (n - (q + 1)) (w1.setCell ⟨H + 1, 0, none⟩ (.slice (some ⟨gg, 0, none⟩) (N + 1) cap)) ∧ w1.cell? ⟨H + 1, 0, none⟩ = some vt ∧ w1.frozen? ⟨H + 1, 0, none⟩ = false := by
  have hlow := hL.out.low
  have h1 := ((hL.out.quiet ((Fr.refl _ _).drewN m)).setPos (q + 1) ((q : Int) + 1) (by omega)).quiet ((Fr.refl _ _).alloc (.cells #[.int .u8 x] 5))
  obtain ⟨h2, h3, h4, h5, h6⟩ := text_step h1 (own_past rfl ot hlow (fr_pos wr sb m _ _)) (own_past rfl oj hlow (fr_pos wr sb m _ _)) hown hg
  refine ⟨⟨q + 1, T ++ [x], J, cc, _, vj, by omega, rfl, fun r hr => hruns.out r ?_, h2, ?_, h4, by simp; omega, by omega⟩, h5, h6⟩
  · refine Runs.plain ?_ hend (by rw [hx.out]; exact hb)
    rw [hx.out]; exact hr
  · rw [List.length_append, List.map_append, hN.out]; exact h3

/-- Behind a backslash: pos stands behind it, text and joins are as they were. -/
def BackR (D : List Int) (w : World) (H sb : Nat) (a : Option Addr) (n c p : Nat) (l : Int) (k : Nat) (ln : Int) (q : Nat) (T J : List Int) (cc : Nat) (wx : World) : Prop :=
  ∃ (vt vj : Value), LS w H sb a n c ln D (q + 1) (lnx l (k + cc)) vt vj wx ∧ (∀ r, Runs D q T J cc r → Runs D p [] [] 0 r) ∧ wx.ownsRow (H + 2) 5 1 vt T.length (T.map (Value.int .u8)) ∧ wx.ownsRow (H + 2) 3 1 vj J.length (J.map (Value.int .i64))

theorem BackR.make {D : List Int} {w : World} {H sb : Nat} {a : Option Addr} {n c p : Nat} {l : Int} {k : Nat} {ln : Int} {q : Nat} {T J : List Int} {cc : Nat} {wr wx : World} {vt vj : Value} (h : LS w H sb a n c ln D (q + 1) (lnx l (k + cc)) vt vj wx) (f : Fr (fun i => i = sb) wr wx)
    (hruns : Hid (∀ r, Runs D q T J cc r → Runs D p [] [] 0 r)) (ot : Hid (wr.ownsRow (H + 2) 5 1 vt T.length (T.map (Value.int .u8)))) (oj : Hid (wr.ownsRow (H + 2) 3 1 vj J.length (J.map (Value.int .i64)))) (hlow : sb < H) : BackR D w H sb a n c p l k ln q T J cc wx :=
  ⟨vt, vj, h, hruns.out, own_past rfl ot hlow f, own_past rfl oj hlow f⟩

/-- A BACKSLASH AT THE INPUT's END IS DROPPED. -/
theorem drop_step {D : List Int} {w : World} {H sb : Nat} {a : Option Addr} {n c p : Nat} {l : Int} {k : Nat} {ln : Int} {q : Nat} {T J : List Int} {cc : Nat} {wx : World} {vt vj : Value} (hL : Hid (LS w H sb a n c ln D (q + 1) (lnx l (k + cc)) vt vj wx)) (hruns : Hid (∀ r, Runs D q T J cc r → Runs D p [] [] 0 r))
    (ot : Hid (wx.ownsRow (H + 2) 5 1 vt T.length (T.map (Value.int .u8)))) (oj : Hid (wx.ownsRow (H + 2) 3 1 vj J.length (J.map (Value.int .i64)))) (hT : T.length ≤ q) (hJ : J.length ≤ q) (hl : q + 1 = n) (hn : n = D.length) (hend : isEnd D q = false) (hx : bt D q = 92) (m : Nat) :
    SlowR D w H sb a n c p l k ln (n - (q + 1)) (wx.drewN m) := by
  have f : Fr (fun _ => False) wx (wx.drewN m) := (Fr.refl _ _).drewN m
  exact ⟨q + 1, T, J, cc, vt, vj, by omega, rfl, fun r hr => hruns.out r (Runs.drop hr hend hx (by omega)), hL.out.quiet f, f.own ot.out (fun _ _ => id), f.own oj.out (fun _ _ => id), by omega, by omega⟩

/-- A BACKSLASH AT A LINE's END JOINS THE NEXT LINE ON. -/
theorem join_step {D : List Int} {w : World} {H sb : Nat} {a : Option Addr} {n c p : Nat} {l : Int} {k : Nat} {ln : Int} {q : Nat} {T J : List Int} {cc : Nat} {wx w1 : World} {vt vj : Value} {N M gg cap : Nat}
    (hL : Hid (LS w H sb a n c ln D (blk D (skipE D (q + 1))) (lnx l (k + cc + incE D (q + 1))) vt vj wx)) (hruns : Hid (∀ r, Runs D q T J cc r → Runs D p [] [] 0 r))
    (ot : Hid (wx.ownsRow (H + 2) 5 1 vt T.length (T.map (Value.int .u8)))) (oj : Hid (wx.ownsRow (H + 2) 3 1 vj J.length (J.map (Value.int .i64)))) (hT : T.length ≤ q) (hJ : J.length ≤ q) (hl : q + 1 < n) (hn : n = D.length) (hend : isEnd D q = false) (hx : bt D q = 92) (hend2 : isEnd D (q + 1) = true)
    (hN : Hid (T.length = N)) (hM : Hid (J.length = M)) (hown : w1.ownsRow (H + 2) 3 1 (.slice (some ⟨gg, 0, none⟩) (M + 1) cap) (M + 1) (J.map (Value.int .i64) ++ [.int .i64 (N : Int)])) (hg : (wx.alloc (.cells #[.int .i64 (N : Int)] 3)).grownBy w1 vj.ownBlock) :
    SlowR D w H sb a n c p l k ln (n - blk D (skipE D (q + 1))) (w1.setCell ⟨H + 1, 2, none⟩ (.slice (some ⟨gg, 0, none⟩) (M + 1) cap)) ∧ w1.cell? ⟨H + 1, 2, none⟩ = some vj ∧ w1.frozen? ⟨H + 1, 2, none⟩ = false := by
  have f : Fr (fun _ => False) wx (wx.alloc (.cells #[.int .i64 (N : Int)] 3)) := (Fr.refl _ _).alloc _
  obtain ⟨h2, h3, h4, h5, h6⟩ := joins_step (hL.out.quiet f) (f.own ot.out (fun _ _ => id)) (f.own oj.out (fun _ _ => id)) hown hg
  have hi : incE D (q + 1) = 1 := by rw [incE, if_neg (by omega)]
  have g1 := skipE_gt D (q + 1) (by omega)
  have g2 := blk_ge D (skipE D (q + 1))
  have g3 := blk_le D (skipE D (q + 1)) (skipE_le D (q + 1) (by omega))
  rw [hi, Nat.add_assoc] at h2
  refine ⟨⟨blk D (skipE D (q + 1)), T, J ++ [(T.length : Int)], cc + 1, vt, _, by omega, rfl, fun r hr => hruns.out r (Runs.join hr hend hx hend2 (by omega)), h2, h3, ?_, by omega, by simp; omega⟩, h5, h6⟩
  rw [List.length_append, List.map_append, hM.out, hN.out]; exact h4

/-- A BACKSLASH KEEPS THE BYTE THAT IT ESCAPES. -/
theorem pair_step {D : List Int} {w : World} {H sb : Nat} {a : Option Addr} {n c p : Nat} {l : Int} {k : Nat} {ln : Int} {q : Nat} {T J : List Int} {cc : Nat} {wx w1 : World} {vt vj : Value} {N gg cap : Nat} {y : Int}
    (hL : Hid (LS w H sb a n c ln D (q + 1) (lnx l (k + cc)) vt vj wx)) (hruns : Hid (∀ r, Runs D q T J cc r → Runs D p [] [] 0 r))
    (ot : Hid (wx.ownsRow (H + 2) 5 1 vt T.length (T.map (Value.int .u8)))) (oj : Hid (wx.ownsRow (H + 2) 3 1 vj J.length (J.map (Value.int .i64)))) (hT : T.length ≤ q) (hJ : J.length ≤ q) (hl : q + 1 < n) (hend : isEnd D q = false) (hx : bt D q = 92) (hend2 : isEnd D (q + 1) = false) (hy : Hid (bt D (q + 1) = y))
    (hN : Hid (T.length = N)) (hown : w1.ownsRow (H + 2) 5 1 (.slice (some ⟨gg, 0, none⟩) (N + 2) cap) (N + 2) (T.map (Value.int .u8) ++ [.int .u8 92, .int .u8 y])) (hg : ((wx.alloc (.cells #[.int .u8 92, .int .u8 y] 5)).drew).grownBy w1 vt.ownBlock) :
    SlowR D w H sb a n c p l k ln (n - (q + 2)) ((w1.setCell ⟨H + 1, 0, none⟩ (.slice (some ⟨gg, 0, none⟩) (N + 2) cap)).setCell ⟨sb, 1, none⟩ (.int .i64 ((q : Int) + 2))) ∧ w1.cell? ⟨H + 1, 0, none⟩ = some vt ∧ w1.frozen? ⟨H + 1, 0, none⟩ = false ∧
      w1.cell? ⟨sb, 1, none⟩ = some (.int .i64 ((q : Int) + 1)) ∧ w1.frozen? ⟨sb, 1, none⟩ = false := by
  have f : Fr (fun _ => False) wx ((wx.alloc (.cells #[.int .u8 92, .int .u8 y] 5)).drew) := ((Fr.refl _ _).alloc _).drew
  have hlow := hL.out.low
  have hf : Fr (fun k => vt.ownBlock = some k) (wx.alloc (.cells #[.int .u8 92, .int .u8 y] 5)).drew w1 := (Fr.refl _ _).grown hg (fun k _ hk => hk)
  have hL1 := (hL.out.quiet f).keep hf (fun i hi hbad => by have := (f.own ot.out (fun _ _ => id)).lt i hbad; omega)
  obtain ⟨h2, h3, h4, h5, h6⟩ := text_step (hL.out.quiet f) (f.own ot.out (fun _ _ => id)) (f.own oj.out (fun _ _ => id)) hown hg
  have h7 := h2.setPos (q + 2) ((q : Int) + 2) (by omega)
  refine ⟨⟨q + 2, T ++ [92, y], J, cc, _, vj, by omega, rfl, fun r hr => hruns.out r (Runs.pair (by rw [hy.out]; exact hr) hend hx hend2), h7, ?_, ?_, by simp; omega, by omega⟩, h5, h6, ?_, free_of_blk hL1.scan 1⟩
  · rw [List.length_append, List.map_append, hN.out]
    exact ownsRow_setCell_below h3 (a := ⟨sb, 1, none⟩) (by simp; omega) _
  · exact ownsRow_setCell_below h4 (a := ⟨sb, 1, none⟩) (by simp; omega) _
  · have := hL1.scan.c1; simpa using this

theorem vt_shape {w : World} {base : Nat} {e : TypeId} {v : Value} {T : List Int} {xs : List Value} {N : Nat} (h : w.ownsRow base e 1 v T.length xs) (hN : Hid (T.length = N)) : ∃ a c, v = .slice a N c := by
  rcases own_shape h with ⟨rfl, hT, _⟩ | ⟨g, cap, rfl, _⟩
  · exact ⟨none, 0, by rw [← hN.out, hT]⟩
  · exact ⟨_, cap, by rw [hN.out]⟩
end Go.Proofs.Qxb6621698a
