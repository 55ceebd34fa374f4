/-
  (*DocumentBuilder).Document, walked.
-/
import Derived.Test.Qxb6621698aDocAll
import Derived.Lib.SliceRun
import Derived.BigFrame
namespace Go.Proofs.Qxb6621698a
open Go.RowKit

/-- What Document leaves: a row of its own that holds all entries; an empty builder. -/
def DocR (w : World) (base bb : Nat) (vl vf : Value) (P : List (Value × List Ent)) (L : List Ent) (v : Value) (w' : World) : Prop :=
  w'.ownsRow base 56 3 v (allOf P L).length (cellsOf (allOf P L)) ∧ (allOf P L = [] → v = .slice none 0 0) ∧ Near w vl v ∧
    ∃ vf', Sta w' base bb (.slice none 0 0) vf' [] [] ∧ Fr (fun k => k = bb ∨ vf.ownBlock = some k) w w' ∧ Near w vf vf'

/-- The three stores at Document's end. -/
theorem reset_step {w : World} {base bb : Nat} {x0 x1 x2 vf' v : Value} {L0 : List Ent} (blk : w.heap[bb]? = some (.cells #[x0, x1, x2] 40 (0, 0))) (low : bb < base) (hi : base ≤ w.heap.size) (hv : w.ownsRow base 56 3 v L0.length (cellsOf L0)) (hf : w.ownsRow base 37 1 vf' 0 []) :
    Sta (((w.setCell ⟨bb, 0, none⟩ (.slice none 0 0)).setCell ⟨bb, 1, none⟩ vf').setCell ⟨bb, 2, none⟩ (.int .i64 0)) base bb (.slice none 0 0) vf' [] [] ∧
    (((w.setCell ⟨bb, 0, none⟩ (.slice none 0 0)).setCell ⟨bb, 1, none⟩ vf').setCell ⟨bb, 2, none⟩ (.int .i64 0)).ownsRow base 56 3 v L0.length (cellsOf L0) ∧
    Fr (fun k => k = bb) w (((w.setCell ⟨bb, 0, none⟩ (.slice none 0 0)).setCell ⟨bb, 1, none⟩ vf').setCell ⟨bb, 2, none⟩ (.int .i64 0)) := by
  have b0 := blk_setCell blk 0 (.slice none 0 0)
  have b1 := blk_setCell b0 1 vf'
  have b2 := blk_setCell b1 2 (.int .i64 0)
  have keep : ∀ {e : TypeId} {size : Nat} {v : Value} {n : Nat} {xs : List Value}, w.ownsRow base e size v n xs → (((w.setCell ⟨bb, 0, none⟩ (.slice none 0 0)).setCell ⟨bb, 1, none⟩ vf').setCell ⟨bb, 2, none⟩ (.int .i64 0)).ownsRow base e size v n xs :=
    fun ho => own_set_low (own_set_low (own_set_low ho low 0 _) low 1 _) low 2 _
  refine ⟨⟨⟨?_, low, ?_, World.ownsRow_nil _ _ _ _, keep hf, fun p hp => by simp at hp⟩, fun p hp => by simp at hp, fun _ => ⟨rfl, rfl⟩⟩, keep hv, ?_⟩
  · rw [b2]; rfl
  · simpa [World.setCell] using hi
  · exact Fr.setCell (bad := fun k => k = bb) (Fr.setCell (bad := fun k => k = bb) (Fr.setCell (bad := fun k => k = bb) (Fr.refl _ _) _ (fun _ => rfl) _) _ (fun _ => rfl) _) _ (fun _ => rfl) _

theorem DocR.quiet {w w1 w2 : World} {base bb : Nat} {vl vf v : Value} {P : List (Value × List Ent)} {L : List Ent} (h : DocR w base bb vl vf P L v w1) (f : Fr (fun _ => False) w1 w2) : DocR w base bb vl vf P L v w2 := by
  obtain ⟨h1, h2, h3, vf', h4, h5, h6⟩ := h
  exact ⟨f.own h1 (fun _ _ => id), h2, h3, vf', h4.quiet f, h5.trans' f (fun _ _ h => h.elim), h6⟩
theorem DocR.drew {w w1 : World} {base bb : Nat} {vl vf v : Value} {P : List (Value × List Ent)} {L : List Ent} (h : DocR w base bb vl vf P L v w1) : DocR w base bb vl vf P L v w1.drew := h.quiet (Fr.refl _ _).drew

theorem doc_plain_end {w : World} {base bb : Nat} {vl : Value} {av : Option Addr} {cv : Nat} {L : List Ent} (hs : Sta w base bb vl (.slice av 0 cv) [] L) :
    DocR w base bb vl (.slice av 0 cv) [] L vl (((w.setCell ⟨bb, 0, none⟩ (.slice none 0 0)).setCell ⟨bb, 1, none⟩ (.slice av 0 cv)).setCell ⟨bb, 2, none⟩ (.int .i64 0)) := by
  obtain ⟨s1, o1, f1⟩ := reset_step hs.bld.blk hs.bld.low hs.bld.hi hs.bld.last hs.bld.full
  exact ⟨by simpa [allOf] using o1, fun h => (hs.nil (by simpa [allOf] using h)).1, fun k hk => .inl hk, _, s1, f1.mono (fun _ _ h => .inl h), fun k hk => .inl hk⟩

set_option maxRecDepth 100000 in
set_option maxHeartbeats 1600000 in
theorem doc_plain (bb base : Nat) (w : World) (vl : Value) (av : Option Addr) (cv : Nat) (L : List Ent) (hs : Sta w base bb vl (.slice av 0 cv) [] L) :
    Calls Try.prog 18 #[.pointer (some ⟨bb, 0, none⟩)] w fun e w' => e = .returned vl ∧ DocR w base bb vl (.slice av 0 cv) [] L vl w' := by
  have h0 : w.cell? ⟨bb, 0, none⟩ = some vl := by simp [cell_of_blk hs.bld.blk]
  have h1 : w.cell? ⟨bb, 1, none⟩ = some (.slice av 0 cv) := by simp [cell_of_blk hs.bld.blk]
  have h2 : w.cell? ⟨bb, 2, none⟩ = some (.int .i64 0) := by simp [cell_of_blk hs.bld.blk]
  have g0 : w.frozen? ⟨bb, 0, none⟩ = false := free_of_blk hs.bld.blk 0
  have g1 : w.frozen? ⟨bb, 1, none⟩ = false := free_of_blk hs.bld.blk 1
  have g2 : w.frozen? ⟨bb, 2, none⟩ = false := free_of_blk hs.bld.blk 2
  have hcl : ∀ ty, (Builtin.clear_ #[38] ty #[.slice av 0 cv]).run Try.prog w = .ok (.tuple #[]) w := fun ty => by
    cases av <;> simp [Builtin.clear_, run_underlying Try.underlying38]
  go_enter Try.func18, Try.ntmps18
  go_wp2_with (simp only [hcl])
  go_region
  go_wp2
  go_ret
  exact ⟨rfl, (doc_plain_end hs).drew⟩

/-- The entries of the first j parts. -/
def upto (P : List (Value × List Ent)) (j : Nat) : List Ent := (P.take j).flatMap (·.2)
def partAt (P : List (Value × List Ent)) (j : Nat) : Value × List Ent := P.getD j (.slice none 0 0, [])
theorem partAt_mem (P : List (Value × List Ent)) (j : Nat) (h : j < P.length) : partAt P j ∈ P := by simp [partAt, h]
theorem upto_succ (P : List (Value × List Ent)) (j : Nat) (h : j < P.length) : upto P (j + 1) = upto P j ++ (partAt P j).2 := by
  rw [upto, List.take_succ_eq_append_getElem h, List.flatMap_append, upto]
  simp [partAt, h]
theorem upto_le (P : List (Value × List Ent)) (j : Nat) : (upto P j).length ≤ (P.flatMap (·.2)).length := by
  have : P.flatMap (·.2) = upto P j ++ (P.drop j).flatMap (·.2) := by rw [upto, ← List.flatMap_append, List.take_append_drop]
  rw [this, List.length_append]; omega
theorem upto_all (P : List (Value × List Ent)) (m : Nat) (h : Hid (m = P.length)) : upto P m = P.flatMap (·.2) := by rw [h.out, upto, List.take_length]

theorem full_cell {w : World} {base bb fb m cf : Nat} {vl : Value} {P : List (Value × List Ent)} {L : List Ent} {held : Nat} (h : Bld w base bb vl (.slice (some ⟨fb, 0, none⟩) m cf) P L held) (j : Nat) (hj : j < P.length) : w.cell? ⟨fb, j, none⟩ = some (partAt P j).1 := by
  have := h.full.cells (g := fb) rfl j (partAt P j).1 (by simp [partAt, hj])
  have hadd : (⟨fb, 0, none⟩ : Addr).add j = ⟨fb, j, none⟩ := by unfold Addr.add; split <;> simp_all
  rwa [hadd] at this

theorem part_shape {w : World} {base bb : Nat} {vl vf : Value} {P : List (Value × List Ent)} {L : List Ent} {held : Nat} (h : Bld w base bb vl vf P L held) (j : Nat) (hj : j < P.length) :
    ∃ g c, (partAt P j).1 = .slice (some ⟨g, 0, none⟩) (partAt P j).2.length c ∧ g < w.heap.size ∧ 0 < (partAt P j).2.length ∧ ∀ i u, (cellsOf (partAt P j).2)[i]? = some u → w.cell? ((⟨g, 0, none⟩ : Addr).add i) = some u := by
  obtain ⟨ho, hne⟩ := h.parts _ (partAt_mem P j hj)
  have h0 : 0 < (partAt P j).2.length := List.length_pos_iff.2 hne
  obtain ⟨g, c, hv, _, hlt⟩ := ho.form h0
  exact ⟨g, c, hv, hlt, h0, ho.cells (by rw [hv]; rfl)⟩

theorem last_shape {w : World} {base bb : Nat} {vl vf : Value} {P : List (Value × List Ent)} {L : List Ent} {held : Nat} (h : Bld w base bb vl vf P L held) (hL : 0 < L.length) :
    ∃ g c, vl = .slice (some ⟨g, 0, none⟩) L.length c ∧ g < w.heap.size ∧ ∀ i u, (cellsOf L)[i]? = some u → w.cell? ((⟨g, 0, none⟩ : Addr).add i) = some u := by
  obtain ⟨g, c, hv, _, hlt⟩ := h.last.form hL
  exact ⟨g, c, hv, hlt, h.last.cells (by rw [hv]; rfl)⟩

theorem cells_below {w w' : World} {g : Nat} {xs : List Value} (hb : Below w.heap.size w w') (hg : g < w.heap.size) (h : ∀ i u, xs[i]? = some u → w.cell? ((⟨g, 0, none⟩ : Addr).add i) = some u) : ∀ i u, xs[i]? = some u → w'.cell? ((⟨g, 0, none⟩ : Addr).add i) = some u := fun i u hu => by
  have hadd : (⟨g, 0, none⟩ : Addr).add i = ⟨g, i, none⟩ := by unfold Addr.add; split <;> simp_all
  have := h i u hu
  rw [hadd] at this ⊢
  exact (hb.cell (p := ⟨g, i, none⟩) hg).trans this

theorem upto_own {w2 : World} {B j N np : Nat} {P : List (Value × List Ent)} {xs : List Ent} {gg cap : Nat} (HU : Hid (upto P (j + 1) = upto P j ++ xs)) (HN : Hid ((upto P j).length = N)) (HNP : Hid (xs.length = np))
    (h : w2.ownsRow B 56 3 (.slice (some ⟨gg, 0, none⟩) (N + np) cap) (N + np) (cellsOf (upto P j) ++ cellsOf xs)) : w2.ownsRow B 56 3 (.slice (some ⟨gg, 0, none⟩) (N + np) cap) (upto P (j + 1)).length (cellsOf (upto P (j + 1))) := by
  rw [HU.out, cellsOf_append, List.length_append, HN.out, HNP.out]; exact h

theorem setCells_other (b : Nat) : ∀ (vs : List Value) (o : Nat) (w : World) (k : Nat), k ≠ b → (w.setCells b o vs).heap[k]? = w.heap[k]?
  | [], _, _, _, _ => rfl
  | v :: r, o, w, k, h => by rw [World.setCells, setCells_other b r _ _ k h, Below.heap_setCell w ⟨b, o, none⟩ v k h]
theorem setCells_same (b : Nat) {e : TypeId} {fr : Nat × Nat} : ∀ (vs : List Value) (o : Nat) (w : World) (cur : Array Value), w.heap[b]? = some (.cells cur e fr) → ∃ cur', (w.setCells b o vs).heap[b]? = some (.cells cur' e fr) ∧ cur'.size = cur.size
  | [], _, _, cur, h => ⟨cur, h, rfl⟩
  | v :: r, o, w, cur, h => by
    obtain ⟨c', h1, h2⟩ := setCells_same b r (o + 1) (w.setCell ⟨b, o, none⟩ v) (cur.setIfInBounds o v) (blk_setCell h o v)
    exact ⟨c', by rw [World.setCells]; exact h1, by rw [h2]; simp⟩
theorem setCells_rest (b : Nat) : ∀ (vs : List Value) (o : Nat) (w : World), (w.setCells b o vs).os = w.os ∧ (w.setCells b o vs).tape = w.tape ∧ (w.setCells b o vs).output = w.output ∧ (w.setCells b o vs).heap.size = w.heap.size
  | [], _, _ => ⟨rfl, rfl, rfl, rfl⟩
  | v :: r, o, w => by
    obtain ⟨h1, h2, h3, h4⟩ := setCells_rest b r (o + 1) (w.setCell ⟨b, o, none⟩ v)
    rw [World.setCells]
    exact ⟨h1, h2, h3, by rw [h4]; simp [World.setCell]⟩
theorem Fr.setCells {w : World} (b o : Nat) (vs : List Value) : Fr (fun k => k = b) w (w.setCells b o vs) :=
  ⟨(setCells_rest b vs o w).1, (setCells_rest b vs o w).2.1, (setCells_rest b vs o w).2.2.1, by rw [(setCells_rest b vs o w).2.2.2]; exact Nat.le_refl _, fun k _ hk => setCells_other b vs o w k hk⟩

/-- Behind 'clear(b.full)'. -/
def ClrR (w : World) (base bb fb m cf : Nat) (P : List (Value × List Ent)) (L : List Ent) (v : Value) (wd : World) : Prop :=
  ∃ x0 x2, wd.heap[bb]? = some (.cells #[x0, .slice (some ⟨fb, 0, none⟩) m cf, x2] 40 (0, 0)) ∧ base ≤ wd.heap.size ∧ wd.ownsRow w.heap.size 56 3 v (allOf P L).length (cellsOf (allOf P L)) ∧
    wd.ownsRow base 37 1 (.slice (some ⟨fb, 0, none⟩) 0 cf) 0 [] ∧ Fr (fun k => k = fb) w wd

theorem zero37 (w : World) : (zeroValue 37).run Try.prog w = .ok (.slice none 0 0) w := by kernel_rfl

theorem full_block {w : World} {base bb fb m cf : Nat} {vl : Value} {P : List (Value × List Ent)} {L : List Ent} {held : Nat} (h : Bld w base bb vl (.slice (some ⟨fb, 0, none⟩) m cf) P L held) :
    ∃ cur, w.heap[fb]? = some (.cells cur 37 (0, 0)) ∧ cur.size = cf ∧ P.length ≤ cf ∧ base ≤ fb ∧ cf ≤ maxLen := by
  rcases h.full.2 with ⟨hv, _⟩ | ⟨g, cap, cur, hv, hb, hg, h1, h2, h3, _⟩
  · simp at hv
  · simp only [Value.slice.injEq, Option.some.injEq, Addr.mk.injEq, and_true] at hv
    obtain ⟨rfl, rfl, rfl⟩ := hv
    exact ⟨cur, hg, by omega, by omega, hb, h2⟩

theorem clear_run {w w2 : World} {base bb fb m cf : Nat} {vl : Value} {P : List (Value × List Ent)} {L : List Ent} (hs : Sta w base bb vl (.slice (some ⟨fb, 0, none⟩) m cf) P L) (hm0 : 0 < m) (hm : Hid (m = P.length)) (hb : Below w.heap.size w w2) :
    ∀ ty, (Builtin.clear_ #[38] ty #[.slice (some ⟨fb, 0, none⟩) m cf]).run Try.prog w2 = .ok (.tuple #[]) (w2.setCells fb 0 (List.replicate m (.slice none 0 0))) := fun ty => by
  obtain ⟨cur, hg, h1, h2, _⟩ := full_block hs.bld
  have hm' := hm.out
  have hg2 : w2.heap[fb]? = some (.cells cur 37 (0, 0)) := (hb.block fb (lt_of_heap hg)).trans hg
  refine Lib.run_clear_slice w2 38 37 ty (.slice none 0 0) Try.underlying38 zero37 rfl rfl fb 0 m cf hm0 (fun j hj => ?_) (fun j hj => free_of_blk hg2 _)
  rw [cell_of_blk hg2, Array.getElem?_eq_getElem (by omega)]
  rfl

theorem clear_step {w w2 : World} {base bb fb m cf gg N nl cap : Nat} {vl : Value} {P : List (Value × List Ent)} {L : List Ent} (hs : Sta w base bb vl (.slice (some ⟨fb, 0, none⟩) m cf) P L) (hm : Hid (m = P.length))
    (hN : Hid ((P.flatMap (·.2)).length = N)) (hnl : Hid (L.length = nl)) (hb : Below w.heap.size w w2) (hown : w2.ownsRow w.heap.size 56 3 (.slice (some ⟨gg, 0, none⟩) (N + nl) cap) (N + nl) (cellsOf (P.flatMap (·.2)) ++ cellsOf L)) :
    ClrR w base bb fb m cf P L (.slice (some ⟨gg, 0, none⟩) (N + nl) cap) (w2.setCells fb 0 (List.replicate m (.slice none 0 0))) := by
  obtain ⟨cur, hg, h1, h2, h3, h4⟩ := full_block hs.bld
  have hm' := hm.out
  have hlt := lt_of_heap hg
  have hg2 : w2.heap[fb]? = some (.cells cur 37 (0, 0)) := (hb.block fb hlt).trans hg
  have f2 : Fr (fun k => k = fb) w2 (w2.setCells fb 0 (List.replicate m (.slice none 0 0))) := Fr.setCells fb 0 _
  have hlow := hs.bld.low
  have hbb : bb < w.heap.size := lt_of_heap hs.bld.blk
  have fw : Fr (fun k => k = fb) w (w2.setCells fb 0 (List.replicate m (.slice none 0 0))) := ((Fr.of_below hb).mono (fun i h h' => by omega)).trans f2
  refine ⟨_, _, f2.heap ((hb.block bb hbb).trans hs.bld.blk) (by omega), ?_, ?_, ?_, fw⟩
  · have := hs.bld.hi; have := fw.size; omega
  · rw [allOf, cellsOf_append, List.length_append, hN.out, hnl.out]
    refine f2.own hown (fun k hk => ?_)
    have := hown.lt k hk
    omega
  · obtain ⟨cur', c1, c2⟩ := setCells_same fb (List.replicate m (.slice none 0 0)) 0 w2 cur hg2
    exact ⟨rfl, .inr ⟨fb, cf, cur', rfl, h3, c1, Nat.zero_le _, h4, by omega, by simp⟩⟩

theorem doc_join_end {w wd : World} {base bb fb m cf gg n cap : Nat} {vl x0 x2 : Value} {P : List (Value × List Ent)} {L : List Ent} (hs : Sta w base bb vl (.slice (some ⟨fb, 0, none⟩) m cf) P L) {nl : Nat} (hL : 0 < nl)
    (blk : wd.heap[bb]? = some (.cells #[x0, .slice (some ⟨fb, 0, none⟩) m cf, x2] 40 (0, 0))) (hi : base ≤ wd.heap.size) (ho : wd.ownsRow w.heap.size 56 3 (.slice (some ⟨gg, 0, none⟩) (n + nl) cap) (allOf P L).length (cellsOf (allOf P L)))
    (hf : wd.ownsRow base 37 1 (.slice (some ⟨fb, 0, none⟩) 0 cf) 0 []) (fw : Fr (fun k => k = fb) w wd) :
    DocR w base bb vl (.slice (some ⟨fb, 0, none⟩) m cf) P L (.slice (some ⟨gg, 0, none⟩) (n + nl) cap) (((wd.setCell ⟨bb, 0, none⟩ (.slice none 0 0)).setCell ⟨bb, 1, none⟩ (.slice (some ⟨fb, 0, none⟩) 0 cf)).setCell ⟨bb, 2, none⟩ (.int .i64 0)) := by
  obtain ⟨s1, o1, f1⟩ := reset_step blk hs.bld.low hi (own_base ho hs.bld.hi) hf
  have hlen : (allOf P L).length = n + nl := by
    rcases own_shape ho with ⟨h, _⟩ | ⟨g, c, h, _⟩
    · simp at h
    · simp only [Value.slice.injEq, Option.some.injEq, Addr.mk.injEq, and_true] at h
      exact h.2.1.symm
  refine ⟨o1, fun h => ?_, fun k hk => .inr (ho.lt k hk).1, _, s1, ?_, fun k hk => .inl hk⟩
  · rw [h] at hlen; simp at hlen; omega
  · refine (fw.mono (fun k _ h => .inr (by rw [h]; rfl))).trans' f1 (fun k _ h => .inl h)

set_option maxRecDepth 100000 in
set_option maxHeartbeats 1600000 in
theorem doc_joined (bb base : Nat) (w : World) (vl : Value) (fb m cf : Nat) (P : List (Value × List Ent)) (L : List Ent) (hs : Sta w base bb vl (.slice (some ⟨fb, 0, none⟩) m cf) P L) (hm : m = P.length) (hm0 : 0 < m) (hq : (allOf P L).length ≤ 1000000) :
    Calls Try.prog 18 #[.pointer (some ⟨bb, 0, none⟩)] w fun e w' => ∃ v, e = .returned v ∧ DocR w base bb vl (.slice (some ⟨fb, 0, none⟩) m cf) P L v w' := by
  have hL : 0 < L.length := List.length_pos_iff.2 (fun h => by have := (hs.nil h).2; subst this; simp at hm; omega)
  obtain ⟨i0, hi0, hz0, hz1, hz2⟩ := info_parts info56
  obtain ⟨g, c, hvl, hg, hLc⟩ := last_shape hs.bld hL
  have h0 : w.cell? ⟨bb, 0, none⟩ = some vl := by simp [cell_of_blk hs.bld.blk]
  have h1 : w.cell? ⟨bb, 1, none⟩ = some (.slice (some ⟨fb, 0, none⟩) m cf) := by simp [cell_of_blk hs.bld.blk]
  have lb : bb < w.heap.size := lt_of_heap hs.bld.blk
  have lf : fb < w.heap.size := (hs.bld.full.lt fb rfl).2
  obtain ⟨q, hq'⟩ : ∃ q, (allOf P L).length = q := ⟨_, rfl⟩
  have HQ := hide hq'
  have hqn : q ≤ 1000000 := by omega
  have hmb : m ≤ 1000000 := by have h1 := hs.bld.parts_le; rw [allOf, List.length_append] at hq; omega
  have HM := hide hm
  have HLC := hide hLc
  have HV := hide hvl
  clear hq' hq hm hLc hvl
  go_enter Try.func18, Try.ntmps18
  go_wp2_with (first | (go_at_call 20; refine (len_sta bb base w vl _ P L q hs HQ.out (by omega)).mono ?_; rintro e w1 ⟨rfl, mq, rfl⟩) | (at_make; refine wpList_make_own _ rfl (.const (.int .i64 0)) (.tmp 17) 37 rfl w.heap.size 56 i0 _ 3 Try.underlying37 hi0 hz0 hz1 .i64 .i64 _ q rfl rfl (by omega) (by rw [hz2]; omega) (by unfold maxLen; omega) (by simp) ?_; intro w1 hown hgrow; have h1' : w1.cell? ⟨bb, 1, none⟩ = some (.slice (some ⟨fb, 0, none⟩) m cf) := (hgrow.cell (a := ⟨bb, 1, none⟩) h1 (by simp))))
  have hb1 : Below w.heap.size w w1 := ((Below.refl w.heap.size w).trans ⟨rfl, rfl, rfl, Nat.le_refl _, fun _ _ => rfl⟩ : Below w.heap.size w (w.drewN mq)).grown hgrow (Nat.le_refl _) (fun k hk => by cases hk)
  have hown1 : w1.ownsRow w.heap.size 56 3 (.slice (some ⟨w.heap.size, 0, none⟩) 0 q) 0 [] := hown
  clear hown hgrow h1'
  go_loopw [3, 24] (fun v i wr => ∃ j : Nat, j ≤ m ∧ i = .int .i64 j ∧ wr.ownsRow w.heap.size 56 3 v (upto P j).length (cellsOf (upto P j)) ∧ Below w.heap.size w wr) (fun _ i _ => m - (intOf i).toNat)
  case atStart => exact ⟨0, Nat.zero_le _, rfl, hown1, hb1⟩
  case round =>
    clear hown1 hb1
    obtain ⟨j, hj, rfl, hown, hb⟩ := hrel
    obtain ⟨N, hN⟩ : ∃ N, (upto P j).length = N := ⟨_, rfl⟩
    rw [hN] at hown
    have HN := hide hN
    have hNq : N ≤ q := by have := upto_le P j; have := HQ.out; rw [allOf, List.length_append] at this; omega
    have hsz := hb.size
    clear hN
    by_cases hlt : j < m
    · have hjP : j < P.length := by have := HM.out; omega
      have c1 : wr.cell? ⟨fb, j, none⟩ = some (partAt P j).1 := (hb.cell (p := ⟨fb, j, none⟩) lf).trans (full_cell hs.bld j hjP)
      obtain ⟨gp, cp, hp, hgp, hp0, hpc⟩ := part_shape hs.bld j hjP
      obtain ⟨xs, hxs⟩ : ∃ xs, (partAt P j).2 = xs := ⟨_, rfl⟩
      have HU := hide (upto_succ P j hjP)
      rw [hxs] at hp hp0 hpc HU
      rw [hp] at c1
      obtain ⟨np, hnp⟩ : ∃ np, xs.length = np := ⟨_, rfl⟩
      rw [hnp] at c1 hp0
      have HNP := hide hnp
      have HPC := hide (cells_below hb hgp hpc)
      have hNn : N + np ≤ q := by
        have h1 := upto_le P (j + 1); have h2 := HQ.out; have h3 := HN.out; have h4 := HNP.out
        rw [HU.out, List.length_append] at h1; rw [allOf, List.length_append] at h2; omega
      clear hp hxs hpc hnp
      have j0 : (0 : Int) ≤ (j : Int) := by omega
      have j1 : (j : Int) < (m : Int) := by omega
      go_wp2_with (at_builtin; refine wpList_append_lies _ rfl (.tmp 28) (.tmp 29) 37 rfl w.heap.size 56 i0 _ 3 40 Try.underlying37 hi0 hz0 hz1 hz2 rfl (by omega) u3 N (cellsOf (upto P j)) rfl hown ⟨gp, 0, none⟩ np cp (cellsOf xs) rfl (by rw [cellsOf_len, HNP.out]) HPC.out (cellsOf_one _) hp0 (by unfold maxLen; omega) (by omega) hsz wr.heap.size rfl ?_; intro gg cap w2 hown2 hgrow2 hat2 hlt2)
      exact ⟨⟨j + 1, by omega, by go_num, upto_own HU HN HNP hown2, hb.grown hgrow2 hsz (fun k hk => (hown.lt k hk).1)⟩, by simp [intOf]; omega⟩
    · have hjm : j = m := by omega
      subst hjm
      have HN2 : Hid ((P.flatMap (·.2)).length = N) := by rw [← upto_all P j HM]; exact HN
      rw [upto_all P j HM] at hown
      obtain ⟨nl, hnl⟩ : ∃ nl, L.length = nl := ⟨_, rfl⟩
      have h0' : wr.cell? ⟨bb, 0, none⟩ = some (.slice (some ⟨g, 0, none⟩) nl c) := by rw [hb.cell (p := ⟨bb, 0, none⟩) lb, h0, HV.out, hnl]
      have HNL := hide hnl
      have HLC' := hide (cells_below hb hg HLC.out)
      have hNn : N + nl ≤ q := by have h1 := HQ.out; have h2 := HN2.out; rw [allOf, List.length_append] at h1; omega
      rw [hnl] at hL
      clear hnl HLC
      go_upto_region 10 with (at_builtin; refine wpList_append_lies _ rfl (.tmp 32) (.tmp 36) 37 rfl w.heap.size 56 i0 _ 3 40 Try.underlying37 hi0 hz0 hz1 hz2 rfl (by omega) u3 N (cellsOf (P.flatMap (·.2))) rfl hown ⟨g, 0, none⟩ nl c (cellsOf L) rfl (by rw [cellsOf_len, HNL.out]) HLC'.out (cellsOf_one _) hL (by unfold maxLen; omega) (by omega) hsz wr.heap.size rfl ?_; intro gg cap w2 hown2 hgrow2 hat2 hlt2)
      have hb2 : Below w.heap.size w w2 := hb.grown hgrow2 hsz (fun k hk => (hown.lt k hk).1)
      have HD := hide (clear_step hs HM HN2 HNL hb2 hown2)
      have hcl := clear_run hs hm0 HM hb2
      have k1 : w2.cell? ⟨bb, 1, none⟩ = some (.slice (some ⟨fb, 0, none⟩) j cf) := (hb2.cell (p := ⟨bb, 1, none⟩) lb).trans h1
      clear hown2 hgrow2 hat2 hlt2 hown hsz h0' HLC' h0 h1 HV HN HN2 HNL
      go_wp2_with (simp only [hcl])
      refine wp_world (ClrR w base bb fb j cf P L (.slice (some ⟨gg, 0, none⟩) (N + nl) cap)) HD.out ?_
      clear HD hcl k1
      rintro wd ⟨x0, x2, blk, hi, ho, hf, fw⟩
      have h0 : wd.cell? ⟨bb, 0, none⟩ = some x0 := by simp [cell_of_blk blk]
      have h1 : wd.cell? ⟨bb, 1, none⟩ = some (.slice (some ⟨fb, 0, none⟩) j cf) := by simp [cell_of_blk blk]
      have h2 : wd.cell? ⟨bb, 2, none⟩ = some x2 := by simp [cell_of_blk blk]
      have g0 : wd.frozen? ⟨bb, 0, none⟩ = false := free_of_blk blk 0
      have g1 : wd.frozen? ⟨bb, 1, none⟩ = false := free_of_blk blk 1
      have g2 : wd.frozen? ⟨bb, 2, none⟩ = false := free_of_blk blk 2
      go_region
      go_wp2
      go_ret
      exact ⟨_, rfl, (doc_join_end hs hL blk hi ho hf fw).drew⟩

/-- DOCUMENT, WHATEVER THE BUILDER HOLDS. -/
theorem doc_any (bb base : Nat) (w : World) (vl vf : Value) (P : List (Value × List Ent)) (L : List Ent) (hs : Sta w base bb vl vf P L) (hq : (allOf P L).length ≤ 1000000) :
    Calls Try.prog 18 #[.pointer (some ⟨bb, 0, none⟩)] w fun e w' => ∃ v, e = .returned v ∧ DocR w base bb vl vf P L v w' := by
  rcases own_shape hs.bld.full with ⟨rfl, hP, _⟩ | ⟨fb, cf, rfl, _⟩
  · obtain rfl : P = [] := List.length_eq_zero_iff.1 hP
    exact (doc_plain bb base w vl none 0 L hs).mono (fun e w' h => ⟨_, h⟩)
  · by_cases hP : P = []
    · subst hP
      exact (doc_plain bb base w vl _ cf L hs).mono (fun e w' h => ⟨_, h⟩)
    · exact doc_joined bb base w vl fb P.length cf P L hs rfl (List.length_pos_iff.2 hP) hq
end Go.Proofs.Qxb6621698a
