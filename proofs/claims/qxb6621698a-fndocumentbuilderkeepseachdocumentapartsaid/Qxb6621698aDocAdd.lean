/-
  (*DocumentBuilder).Add, walked.
-/
import Derived.Test.Qxb6621698aDocA
namespace Go.Proofs.Qxb6621698a
open Go.RowKit

def Near (w : World) (v v' : Value) : Prop := ∀ k, v'.ownBlock = some k → v.ownBlock = some k ∨ w.heap.size ≤ k
def Bad (bb : Nat) (vl vf : Value) (k : Nat) : Prop := k = bb ∨ vl.ownBlock = some k ∨ vf.ownBlock = some k

/-- The state at Add's last statement: there is a part to append to. -/
def MidR (w : World) (base bb : Nat) (vl vf : Value) (P : List (Value × List Ent)) (L : List Ent) (e : Ent) (wc : World) : Prop :=
  ∃ (g c n : Nat) (vf' : Value) (P' : List (Value × List Ent)) (L' : List Ent) (held : Nat), n = L'.length ∧ Bld wc base bb (.slice (some ⟨g, 0, none⟩) n c) vf' P' L' held ∧ Apart P' (.slice (some ⟨g, 0, none⟩) n c) ∧ held = (P'.flatMap (·.2)).length ∧
    allOf P' L' = allOf P L ∧ wc.heap[w.heap.size]? = some (.cells #[.string e.1, .string e.2.1, .int .i64 e.2.2] 56 (0, 0)) ∧ Fr (Bad bb vl vf) w wc ∧ Near w vl (.slice (some ⟨g, 0, none⟩) n c) ∧ Near w vf vf'

/-- What Add leaves. -/
def AddR (w : World) (base bb : Nat) (vl vf : Value) (P : List (Value × List Ent)) (L : List Ent) (e : Ent) (w' : World) : Prop :=
  ∃ (vl' vf' : Value) (P' : List (Value × List Ent)) (L' : List Ent), Sta w' base bb vl' vf' P' L' ∧ allOf P' L' = allOf P L ++ [e] ∧ Fr (Bad bb vl vf) w w' ∧ Near w vl vl' ∧ Near w vf vf'

theorem add_end {w wc W0 w1 : World} {base bb : Nat} {vl vf vf' : Value} {P P' : List (Value × List Ent)} {L L' : List Ent} (e : Ent) {g c n held : Nat} (hn : n = L'.length)
    (hB : Bld wc base bb (.slice (some ⟨g, 0, none⟩) n c) vf' P' L' held) (ap : Apart P' (.slice (some ⟨g, 0, none⟩) n c)) (hh : held = (P'.flatMap (·.2)).length) (ha : allOf P' L' = allOf P L)
    (fw : Fr (Bad bb vl vf) w wc) (nl : Near w vl (.slice (some ⟨g, 0, none⟩) n c)) (nf : Near w vf vf') (f : Fr (fun _ => False) wc W0)
    {gg cap H : Nat} (hown : w1.ownsRow base 56 3 (.slice (some ⟨gg, 0, none⟩) (n + 1) cap) (n + 1) (cellsOf L' ++ cellsE e)) (hg : W0.grownBy w1 (Value.slice (some ⟨g, 0, none⟩) n c).ownBlock) (hat : (Value.slice (some ⟨g, 0, none⟩) n c).ownBlock = some gg ∨ gg = H) (hH : W0.heap.size = H) :
    AddR w base bb vl vf P L e (w1.setCell ⟨bb, 0, none⟩ (.slice (some ⟨gg, 0, none⟩) (n + 1) cap)) ∧ w1.cell? ⟨bb, 0, none⟩ = some (.slice (some ⟨g, 0, none⟩) n c) ∧ w1.frozen? ⟨bb, 0, none⟩ = false := by
  subst hn
  subst hh
  obtain ⟨b1, ap1, f1, c1, z1⟩ := last_step e hB ap f hown hg hat hH
  refine ⟨⟨_, vf', P', L' ++ [e], ⟨b1, ap1, fun h => by simp at h⟩, ?_, ?_, ?_, nf⟩, c1, z1⟩
  · rw [← ha]; simp [allOf]
  · refine fw.trans' f1 (fun k hk hb => ?_)
    rcases hb with hb | hb
    · exact .inl hb
    · rcases nl k hb with h | h
      · exact .inr (.inl h)
      · omega
  · intro k hk
    simp only [Value.ownBlock, Option.some.injEq] at hk
    subst hk
    rcases hat with hat | hat
    · exact nl gg hat
    · right; have := fw.size; have := f.size; omega

theorem last_own {w W0 : World} {base bb : Nat} {vl vf : Value} {P : List (Value × List Ent)} {L : List Ent} {held n : Nat} (hn : Hid (n = L.length)) (h : Bld w base bb vl vf P L held) (f : Fr (fun _ => False) w W0) : W0.ownsRow base 56 3 vl n (cellsOf L) := by
  rw [hn.out]; exact f.own h.last (fun _ _ => id)

set_option maxRecDepth 100000 in
set_option maxHeartbeats 1600000 in
theorem add_room (bb base : Nat) (w : World) (g n c : Nat) (vf : Value) (P : List (Value × List Ent)) (L : List Ent) (e : Ent)
   (hs : Sta w base bb (.slice (some ⟨g, 0, none⟩) n c) vf P L) (hnL : n = L.length) (hn : (allOf P L).length ≤ 1000000) (hnc : n < c) :
    Calls Try.prog 24 #[.pointer (some ⟨bb, 0, none⟩), .agg #[.string e.1, .string e.2.1, .int .i64 e.2.2]] w fun r w' => r = .returned (.tuple #[]) ∧ AddR w base bb (.slice (some ⟨g, 0, none⟩) n c) vf P L e w' := by
  obtain ⟨i0, hi0, hz0, hz1, hz2⟩ := info_parts info56
  have h0 : w.cell? ⟨bb, 0, none⟩ = some (.slice (some ⟨g, 0, none⟩) n c) := by simp [cell_of_blk hs.bld.blk]
  have lb : bb < w.heap.size := lt_of_heap hs.bld.blk
  have hne : ((n : Int) == (c : Int)) = false := by simp; omega
  have HP : Hid (n = L.length) := hnL
  clear hnL
  obtain ⟨k, v, l⟩ := e
  go_enter Try.func24, Try.ntmps24
  go_wp2
  go_quiet (fail)
  go_wp2
  refine wp_world (MidR w base bb (.slice (some ⟨g, 0, none⟩) n c) vf P L (k, v, l)) ?_ ?_
  · have f : Fr (fun _ => False) w ((w.alloc (.cells #[.string k, .string v, .int .i64 l] 56)).drewN nq) := ((Fr.refl _ _).alloc _).drewN _
    exact ⟨g, c, n, vf, P, L, _, HP.out, hs.bld.quiet f, hs.apart, rfl, rfl, heap_alloc_new w _, f.mono (fun _ _ h => h.elim), fun k hk => .inl hk, fun k hk => .inl hk⟩
  · clear h0 hne lb hs HP hnc
    rintro wc ⟨g', c', n', vf', P', L', held, hn', hB, ap, hh, ha, hbox, fw, nl, nf⟩
    have hnb : n' ≤ 1000000 := by have := congrArg List.length ha; simp [allOf] at this hn; omega
    have lb : bb < wc.heap.size := lt_of_heap hB.blk
    have lx : w.heap.size < wc.heap.size := lt_of_heap hbox
    have h0 : wc.cell? ⟨bb, 0, none⟩ = some (.slice (some ⟨g', 0, none⟩) n' c') := by simp [cell_of_blk hB.blk]
    have x0 : wc.cell? ⟨w.heap.size, 0, none⟩ = some (.string k) := by simp [cell_of_blk hbox]
    have x1 : wc.cell? ⟨w.heap.size, 1, none⟩ = some (.string v) := by simp [cell_of_blk hbox]
    have x2 : wc.cell? ⟨w.heap.size, 2, none⟩ = some (.int .i64 l) := by simp [cell_of_blk hbox]
    have hlow := hB.hi
    have HN : Hid (n' = L'.length) := hn'
    have HA : Hid (allOf P' L' = _) := ha
    clear hn' hn ha
    go_region_law ((refine step_append_lies _ (by rfl) (.tmp 62) (.tmp 64) 37 (by rfl) base 56 i0 _ 3 40 Try.underlying37 hi0 hz0 hz1 hz2 rfl (by omega) (.slice (some ⟨g', 0, none⟩) n' c') n' (cellsOf L') (by simp [Act.eval]) (by exact last_own HN hB ((Fr.refl _ _).alloc _).drew) ⟨wc.heap.size, 0, none⟩ 1 1 [.string k, .string v, .int .i64 l] (by simp [Act.eval]) (by rfl) (World.news_of_block (cs := #[.string k, .string v, .int .i64 l]) (t := 56) (fr := (0, 0)) (heap_alloc_new wc _)) (by simp [Value.oneCell']) (by omega) (by unfold maxLen; omega) (by omega) (by simp; omega) (wc.heap.size + 1) (by simp) ?_; intro gg cap w1 hown1 hgrow hat hlt; obtain ⟨hR, hc1, hf1⟩ := add_end (k, v, l) HN.out hB ap hh HA.out fw nl nf ((Fr.refl _ _).alloc _).drew hown1 hgrow hat (by simp)))
    all_goals go_end0
    all_goals exact ⟨rfl, hR⟩

/-- A NEW PART IS MADE. -/
theorem make_step {W0 w1 : World} {base bb : Nat} {vl vf : Value} {P : List (Value × List Ent)} {L : List Ent} {held c : Nat} (h : Bld W0 base bb vl vf P L held)
    (hown : w1.ownsRow base 56 3 (.slice (some ⟨W0.heap.size, 0, none⟩) 0 c) 0 []) (hg : W0.grownBy w1 none) :
    Bld (w1.setCell ⟨bb, 0, none⟩ (.slice (some ⟨W0.heap.size, 0, none⟩) 0 c)) base bb (.slice (some ⟨W0.heap.size, 0, none⟩) 0 c) vf P [] held ∧ Apart P (.slice (some ⟨W0.heap.size, 0, none⟩) 0 c) ∧
      Fr (fun k => k = bb) W0 (w1.setCell ⟨bb, 0, none⟩ (.slice (some ⟨W0.heap.size, 0, none⟩) 0 c)) ∧ w1.cell? ⟨bb, 0, none⟩ = some vl ∧ w1.frozen? ⟨bb, 0, none⟩ = false := by
  have f1 : Fr (fun _ => False) W0 w1 := (Fr.refl _ _).grown hg (fun k _ hk => by cases hk)
  have hW := h.quiet f1
  refine ⟨⟨?_, h.low, ?_, ?_, ?_, ?_⟩, ?_, ?_, ?_, free_of_blk hW.blk 0⟩
  · rw [blk_setCell hW.blk]; rfl
  · have := hW.hi; simp [World.setCell]; omega
  · exact own_set_low hown h.low 0 _
  · exact own_set_low hW.full h.low 0 _
  · intro p hp
    exact ⟨own_set_low (hW.parts p hp).1 h.low 0 _, (hW.parts p hp).2⟩
  · intro p hp heq
    have := (h.parts p hp).1.lt W0.heap.size heq
    omega
  · exact Fr.setCell (bad := fun k => k = bb) (f1.mono (fun _ _ h => h.elim)) _ (fun _ => rfl) _
  · simp [cell_of_blk hW.blk]

theorem mid_make {w W0 w1 : World} {base bb : Nat} {vl vf vl' vf' : Value} {P P' : List (Value × List Ent)} {L L' : List Ent} (e : Ent) {held c H : Nat} (hH : W0.heap.size = H)
    (h : Bld W0 base bb vl' vf' P' L' held) (hh : held = (P'.flatMap (·.2)).length) (ha : allOf P' [] = allOf P L) (hbox : W0.heap[w.heap.size]? = some (.cells #[.string e.1, .string e.2.1, .int .i64 e.2.2] 56 (0, 0)))
    (lb : bb < w.heap.size) (fw : Fr (Bad bb vl vf) w W0) (nf : Near w vf vf')
    (hown : w1.ownsRow base 56 3 (.slice (some ⟨W0.heap.size, 0, none⟩) 0 c) 0 []) (hg : W0.grownBy w1 none) :
    MidR w base bb vl vf P L e (w1.setCell ⟨bb, 0, none⟩ (.slice (some ⟨H, 0, none⟩) 0 c)) ∧ w1.cell? ⟨bb, 0, none⟩ = some vl' ∧ w1.frozen? ⟨bb, 0, none⟩ = false := by
  subst hH
  obtain ⟨hB1, ap1, f1, c1, z1⟩ := make_step h hown hg
  refine ⟨⟨W0.heap.size, c, 0, vf', P', [], held, rfl, hB1, ap1, hh, ha, f1.heap hbox (fun h => by omega), fw.trans' f1 (fun k _ hk => .inl hk), fun k hk => ?_, nf⟩, c1, z1⟩
  simp only [Value.ownBlock, Option.some.injEq] at hk
  subst hk
  right; exact fw.size

set_option maxRecDepth 100000 in
set_option maxHeartbeats 1600000 in
theorem add_first (bb base : Nat) (w : World) (vf : Value) (P : List (Value × List Ent)) (e : Ent)
   (hs : Sta w base bb (.slice none 0 0) vf P []) (hn : (allOf P []).length ≤ 1000000) :
    Calls Try.prog 24 #[.pointer (some ⟨bb, 0, none⟩), .agg #[.string e.1, .string e.2.1, .int .i64 e.2.2]] w fun r w' => r = .returned (.tuple #[]) ∧ AddR w base bb (.slice none 0 0) vf P [] e w' := by
  obtain ⟨i0, hi0, hz0, hz1, hz2⟩ := info_parts info56
  have h0 : w.cell? ⟨bb, 0, none⟩ = some (.slice none 0 0) := by simp [cell_of_blk hs.bld.blk]
  have lb : bb < w.heap.size := lt_of_heap hs.bld.blk
  have hlow := hs.bld.hi
  obtain ⟨k, v, l⟩ := e
  go_enter Try.func24, Try.ntmps24
  go_wp2
  go_quiet (fail)
  go_wp2_with (at_make; refine wpList_make_own _ rfl (.const (.int .i64 0)) (.tmp 54) 37 rfl base 56 i0 _ 3 Try.underlying37 hi0 hz0 hz1 .i64 .i64 _ 8 rfl rfl (by omega) (by omega) (by unfold maxLen; omega) (by simp; omega) ?_; intro w1 hown hgrow; obtain ⟨hM, hc1, hf1⟩ := mid_make (vl := .slice none 0 0) (vf := vf) (P := P) (L := []) (k, v, l) (H := w.heap.size + 1) (by simp) (hs.bld.quiet (((Fr.refl _ _).alloc _).drewN _)) rfl rfl (heap_alloc_new w _) lb (((Fr.refl _ _).alloc _).drewN _) (fun _ hk => .inl hk) hown hgrow)
  refine wp_world (MidR w base bb (.slice none 0 0) vf P [] (k, v, l)) hM ?_
  clear hM hc1 hf1 hown hgrow hlow
  · clear h0 lb hs
    rintro wc ⟨g', c', n', vf', P', L', held, hn', hB, ap, hh, ha, hbox, fw, nl, nf⟩
    have hnb : n' ≤ 1000000 := by have := congrArg List.length ha; simp [allOf] at this hn; omega
    have lb : bb < wc.heap.size := lt_of_heap hB.blk
    have lx : w.heap.size < wc.heap.size := lt_of_heap hbox
    have h0 : wc.cell? ⟨bb, 0, none⟩ = some (.slice (some ⟨g', 0, none⟩) n' c') := by simp [cell_of_blk hB.blk]
    have x0 : wc.cell? ⟨w.heap.size, 0, none⟩ = some (.string k) := by simp [cell_of_blk hbox]
    have x1 : wc.cell? ⟨w.heap.size, 1, none⟩ = some (.string v) := by simp [cell_of_blk hbox]
    have x2 : wc.cell? ⟨w.heap.size, 2, none⟩ = some (.int .i64 l) := by simp [cell_of_blk hbox]
    have hlow := hB.hi
    have HN : Hid (n' = L'.length) := hn'
    have HA : Hid (allOf P' L' = _) := ha
    clear hn' hn ha
    go_region_law ((refine step_append_lies _ (by rfl) (.tmp 62) (.tmp 64) 37 (by rfl) base 56 i0 _ 3 40 Try.underlying37 hi0 hz0 hz1 hz2 rfl (by omega) (.slice (some ⟨g', 0, none⟩) n' c') n' (cellsOf L') (by simp [Act.eval]) (by exact last_own HN hB ((Fr.refl _ _).alloc _).drew) ⟨wc.heap.size, 0, none⟩ 1 1 [.string k, .string v, .int .i64 l] (by simp [Act.eval]) (by rfl) (World.news_of_block (cs := #[.string k, .string v, .int .i64 l]) (t := 56) (fr := (0, 0)) (heap_alloc_new wc _)) (by simp [Value.oneCell']) (by omega) (by unfold maxLen; omega) (by omega) (by simp; omega) (wc.heap.size + 1) (by simp) ?_; intro gg cap w1 hown1 hgrow hat hlt; obtain ⟨hR, hc1, hf1⟩ := add_end (k, v, l) HN.out hB ap hh HA.out fw nl nf ((Fr.refl _ _).alloc _).drew hown1 hgrow hat (by simp)))
    all_goals go_end0
    all_goals exact ⟨rfl, hR⟩

/-- THE FULL PART IS PUT BEHIND THE OTHERS. -/
theorem full_step {w W0 w1 : World} {base bb : Nat} {vl vf : Value} {P : List (Value × List Ent)} {L : List Ent} {held : Nat} (h : Bld w base bb vl vf P L held) (hv : L ≠ []) (f : Fr (fun _ => False) w W0)
    {gg cap m H : Nat} (hm : m = P.length) (hown : w1.ownsRow base 37 1 (.slice (some ⟨gg, 0, none⟩) (m + 1) cap) (m + 1) (P.map (·.1) ++ [vl])) (hg : W0.grownBy w1 vf.ownBlock) (hat : vf.ownBlock = some gg ∨ gg = H) (hH : W0.heap.size = H) :
    Bld (w1.setCell ⟨bb, 1, none⟩ (.slice (some ⟨gg, 0, none⟩) (m + 1) cap)) base bb vl (.slice (some ⟨gg, 0, none⟩) (m + 1) cap) (P ++ [(vl, L)]) L held ∧
      Fr (fun k => k = bb ∨ vf.ownBlock = some k) w (w1.setCell ⟨bb, 1, none⟩ (.slice (some ⟨gg, 0, none⟩) (m + 1) cap)) ∧ Near w vf (.slice (some ⟨gg, 0, none⟩) (m + 1) cap) ∧ w1.cell? ⟨bb, 1, none⟩ = some vf ∧ w1.frozen? ⟨bb, 1, none⟩ = false := by
  subst hm
  have hW := h.quiet f
  have hfar := own_far h.full h.low
  have f1 : Fr (fun k => vf.ownBlock = some k) W0 w1 := (Fr.refl _ _).grown hg (fun k _ hk => hk)
  have hb1 : w1.heap[bb]? = some (.cells #[vl, vf, .int .i64 held] 40 (0, 0)) := f1.heap hW.blk hfar
  have keep : ∀ {v : Value} {n : Nat} {xs : List Value}, W0.ownsRow base 56 3 v n xs → w1.ownsRow base 56 3 v n xs := fun {v n xs} ho => f1.own ho (fun k hk => own_ne ho hW.full (by decide) hk)
  refine ⟨⟨?_, h.low, ?_, ?_, ?_, ?_⟩, ?_, ?_, ?_, free_of_blk hb1 1⟩
  · rw [blk_setCell hb1]; rfl
  · have := hg.size; have := hW.hi; simp [World.setCell]; omega
  · exact own_set_low (keep hW.last) h.low 1 _
  · rw [List.length_append, List.map_append]; exact own_set_low hown h.low 1 _
  · intro p hp
    rcases List.mem_append.1 hp with hp | hp
    · exact ⟨own_set_low (keep (hW.parts p hp).1) h.low 1 _, (hW.parts p hp).2⟩
    · simp at hp
      subst hp
      exact ⟨own_set_low (keep hW.last) h.low 1 _, hv⟩
  · refine Fr.setCell ?_ _ (fun _ => .inl rfl) _
    exact (f.mono (fun _ _ h => h.elim)).trans' f1 (fun k _ hk => .inr hk)
  · intro k hk
    simp only [Value.ownBlock, Option.some.injEq] at hk
    subst hk
    rcases hat with hat | hat
    · exact .inl hat
    · right; have := f.size; omega
  · simp [cell_of_blk hb1]

theorem held_step {w : World} {base bb : Nat} {vl vf : Value} {P : List (Value × List Ent)} {L : List Ent} {held : Nat} (h : Bld w base bb vl vf P L held) (held' : Nat) (x : Int) (hx : x = (held' : Int)) : Bld (w.setCell ⟨bb, 2, none⟩ (.int .i64 x)) base bb vl vf P L held' := by
  subst hx
  refine ⟨?_, h.low, ?_, own_set_low h.last h.low 2 _, own_set_low h.full h.low 2 _, fun p hp => ⟨own_set_low (h.parts p hp).1 h.low 2 _, (h.parts p hp).2⟩⟩
  · rw [blk_setCell h.blk]; rfl
  · have := h.hi; simp [World.setCell]; omega

/-- The state between 'b.full = append(..)' and 'b.held += ..'. -/
def FullR (w : World) (base bb : Nat) (vl vf : Value) (P : List (Value × List Ent)) (L : List Ent) (e : Ent) (held : Nat) (wc : World) : Prop :=
  ∃ vf' : Value, Bld wc base bb vl vf' (P ++ [(vl, L)]) L held ∧ wc.heap[w.heap.size]? = some (.cells #[.string e.1, .string e.2.1, .int .i64 e.2.2] 56 (0, 0)) ∧ Fr (Bad bb vl vf) w wc ∧ Near w vf vf'

theorem full_end {w W0 w1 : World} {base bb : Nat} {vl vf : Value} {P : List (Value × List Ent)} {L : List Ent} {held : Nat} (e : Ent) (h : Bld w base bb vl vf P L held) (hv : L ≠ []) (f : Fr (fun _ => False) w W0)
    (hbox : W0.heap[w.heap.size]? = some (.cells #[.string e.1, .string e.2.1, .int .i64 e.2.2] 56 (0, 0)))
    {gg cap m H : Nat} (hm : m = P.length) (hown : w1.ownsRow base 37 1 (.slice (some ⟨gg, 0, none⟩) (m + 1) cap) (m + 1) (P.map (·.1) ++ [vl])) (hg : W0.grownBy w1 vf.ownBlock) (hat : vf.ownBlock = some gg ∨ gg = H) (hH : W0.heap.size = H) :
    FullR w base bb vl vf P L e held (w1.setCell ⟨bb, 1, none⟩ (.slice (some ⟨gg, 0, none⟩) (m + 1) cap)) ∧ w1.cell? ⟨bb, 1, none⟩ = some vf ∧ w1.frozen? ⟨bb, 1, none⟩ = false := by
  obtain ⟨b1, f1, n1, c1, z1⟩ := full_step h hv f hm hown hg hat hH
  refine ⟨⟨_, b1, ?_, f1.mono (fun k _ hk => hk.elim .inl (fun h => .inr (.inr h))), n1⟩, c1, z1⟩
  have f2 : Fr (fun k => k = bb ∨ vf.ownBlock = some k) W0 (w1.setCell ⟨bb, 1, none⟩ (.slice (some ⟨gg, 0, none⟩) (m + 1) cap)) := Fr.setCell ((Fr.refl _ _).grown hg (fun k _ hk => .inr hk)) _ (fun _ => .inl rfl) _
  refine f2.heap hbox (fun hk => ?_)
  have h1 := lt_of_heap h.blk
  rcases hk with hk | hk
  · omega
  · have := h.full.lt _ hk; omega

end Go.Proofs.Qxb6621698a
