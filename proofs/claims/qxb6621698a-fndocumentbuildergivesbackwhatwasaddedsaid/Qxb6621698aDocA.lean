/-
  The document builder in memory, and what (*DocumentBuilder).Len and (*DocumentBuilder).Add do to it.
-/
import Derived.Test.Qxb6621698aBase
namespace Go.Proofs.Qxb6621698a
open Go.RowKit

theorem info56 : (Try.prog.info? 56).map (fun i => (i.zero, i.size, i.bytes)) = some (some (.agg #[.string ByteArray.empty, .string ByteArray.empty, .int .i64 0]), 3, 40) := by kernel_rfl
theorem info37 : (Try.prog.info? 37).map (fun i => (i.zero, i.size, i.bytes)) = some (some (.slice none 0 0), 1, 24) := by kernel_rfl

/-- An entry: key, value, line. -/
abbrev Ent := ByteArray × ByteArray × Int
def cellsE (e : Ent) : List Value := [.string e.1, .string e.2.1, .int .i64 e.2.2]
def cellsOf (l : List Ent) : List Value := l.flatMap cellsE
theorem cellsOf_snoc (l : List Ent) (e : Ent) : cellsOf (l ++ [e]) = cellsOf l ++ cellsE e := by simp [cellsOf]
theorem cellsOf_append (l m : List Ent) : cellsOf (l ++ m) = cellsOf l ++ cellsOf m := by simp [cellsOf]
theorem cellsOf_len (l : List Ent) : (cellsOf l).length = l.length * 3 := by
  induction l with
  | nil => rfl
  | cons a r ih => simp only [cellsOf, List.flatMap_cons, List.length_append] at *; rw [ih]; simp [cellsE]; omega
theorem cellsOf_one (l : List Ent) : ∀ u ∈ cellsOf l, u.oneCell' = true := by
  intro u hu
  simp only [cellsOf, List.mem_flatMap] at hu
  obtain ⟨e, _, he⟩ := hu
  simp [cellsE] at he
  rcases he with rfl | rfl | rfl <;> rfl

/-- All entries that the builder holds. -/
def allOf (P : List (Value × List Ent)) (L : List Ent) : List Ent := P.flatMap (·.2) ++ L

/-- THE BUILDER IN MEMORY: its three cells; the part being filled (L); the full parts (P), each a row of its own. -/
structure Bld (w : World) (base bb : Nat) (vl vf : Value) (P : List (Value × List Ent)) (L : List Ent) (held : Nat) : Prop where
  blk : w.heap[bb]? = some (.cells #[vl, vf, .int .i64 held] 40 (0, 0))
  low : bb < base
  hi : base ≤ w.heap.size
  last : w.ownsRow base 56 3 vl L.length (cellsOf L)
  full : w.ownsRow base 37 1 vf P.length (P.map (·.1))
  parts : ∀ p ∈ P, w.ownsRow base 56 3 p.1 p.2.length (cellsOf p.2) ∧ p.2 ≠ []

theorem Bld.parts_le {w : World} {base bb : Nat} {vl vf : Value} {P : List (Value × List Ent)} {L : List Ent} {held : Nat} (h : Bld w base bb vl vf P L held) : P.length ≤ (P.flatMap (·.2)).length := by
  have := h.parts
  clear h
  induction P with
  | nil => simp
  | cons p r ih =>
    have h1 := ih (fun q hq => this q (List.mem_cons_of_mem _ hq))
    have h2 := (this p List.mem_cons_self).2
    have h3 : 0 < p.2.length := List.length_pos_iff.2 h2
    rw [List.flatMap_cons, List.length_append, List.length_cons]
    omega

def Apart (P : List (Value × List Ent)) (vl : Value) : Prop := ∀ p ∈ P, p.1.ownBlock ≠ vl.ownBlock

/-- The builder at rest. -/
structure Sta (w : World) (base bb : Nat) (vl vf : Value) (P : List (Value × List Ent)) (L : List Ent) : Prop where
  bld : Bld w base bb vl vf P L (P.flatMap (·.2)).length
  apart : Apart P vl
  nil : L = [] → vl = .slice none 0 0 ∧ P = []

theorem Bld.fr {bad : Nat → Prop} {w w' : World} {base bb : Nat} {vl vf : Value} {P : List (Value × List Ent)} {L : List Ent} {held : Nat} (h : Bld w base bb vl vf P L held) (f : Fr bad w w') (hb : ∀ k, bb ≤ k → k < w.heap.size → ¬ bad k) : Bld w' base bb vl vf P L held := by
  have hr : ∀ {e : TypeId} {size : Nat} {v : Value} {n : Nat} {xs : List Value}, w.ownsRow base e size v n xs → w'.ownsRow base e size v n xs := fun {e size v n xs} ho => f.own ho (fun k hk => by
    have := ho.lt k hk
    have := h.low
    exact hb k (by omega) (by omega))
  exact ⟨f.heap h.blk (hb _ (Nat.le_refl _) (lt_of_heap h.blk)), h.low, Nat.le_trans h.hi f.size, hr h.last, hr h.full, fun p hp => ⟨hr (h.parts p hp).1, (h.parts p hp).2⟩⟩

theorem Bld.quiet {w w' : World} {base bb : Nat} {vl vf : Value} {P : List (Value × List Ent)} {L : List Ent} {held : Nat} (h : Bld w base bb vl vf P L held) (f : Fr (fun _ => False) w w') : Bld w' base bb vl vf P L held := h.fr f (fun _ _ _ => id)

theorem Sta.quiet {w w' : World} {base bb : Nat} {vl vf : Value} {P : List (Value × List Ent)} {L : List Ent} (h : Sta w base bb vl vf P L) (f : Fr (fun _ => False) w w') : Sta w' base bb vl vf P L := ⟨h.bld.quiet f, h.apart, h.nil⟩

/-- An owned row is none of the builder's own block. -/
theorem own_far {w : World} {base bb : Nat} {e : TypeId} {size : Nat} {v : Value} {n : Nat} {xs : List Value} (ho : w.ownsRow base e size v n xs) (hb : bb < base) : v.ownBlock ≠ some bb := fun hk => by have := ho.lt bb hk; omega

theorem own_set_low {w : World} {base : Nat} {e : TypeId} {size : Nat} {v : Value} {n : Nat} {xs : List Value} (ho : w.ownsRow base e size v n xs) {bb : Nat} (hb : bb < base) (i : Nat) (u : Value) : (w.setCell ⟨bb, i, none⟩ u).ownsRow base e size v n xs :=
  ownsRow_setCell_below ho (a := ⟨bb, i, none⟩) hb u

/-- AN ENTRY APPENDED TO THE PART BEING FILLED. -/
theorem last_step {w W0 w1 : World} {base bb : Nat} {vl vf : Value} {P : List (Value × List Ent)} {L : List Ent} {held : Nat} (e : Ent) (h : Bld w base bb vl vf P L held) (ap : Apart P vl) (f : Fr (fun _ => False) w W0)
    {gg cap H : Nat} (hown : w1.ownsRow base 56 3 (.slice (some ⟨gg, 0, none⟩) (L.length + 1) cap) (L.length + 1) (cellsOf L ++ cellsE e)) (hg : W0.grownBy w1 vl.ownBlock) (hat : vl.ownBlock = some gg ∨ gg = H) (hH : W0.heap.size = H) :
    Bld (w1.setCell ⟨bb, 0, none⟩ (.slice (some ⟨gg, 0, none⟩) (L.length + 1) cap)) base bb (.slice (some ⟨gg, 0, none⟩) (L.length + 1) cap) vf P (L ++ [e]) held ∧ Apart P (.slice (some ⟨gg, 0, none⟩) (L.length + 1) cap) ∧
      Fr (fun k => k = bb ∨ vl.ownBlock = some k) w (w1.setCell ⟨bb, 0, none⟩ (.slice (some ⟨gg, 0, none⟩) (L.length + 1) cap)) ∧ w1.cell? ⟨bb, 0, none⟩ = some vl ∧ w1.frozen? ⟨bb, 0, none⟩ = false := by
  have hW := h.quiet f
  have hfar := own_far h.last h.low
  have f1 : Fr (fun k => vl.ownBlock = some k) W0 w1 := (Fr.refl _ _).grown hg (fun k _ hk => hk)
  have hb1 : w1.heap[bb]? = some (.cells #[vl, vf, .int .i64 held] 40 (0, 0)) := f1.heap hW.blk hfar
  have keep : ∀ {e : TypeId} {size : Nat} {v : Value} {n : Nat} {xs : List Value}, W0.ownsRow base e size v n xs → (∀ k, v.ownBlock = some k → vl.ownBlock ≠ some k) → w1.ownsRow base e size v n xs := fun {e size v n xs} ho hk => f1.own ho hk
  refine ⟨⟨?_, h.low, ?_, ?_, ?_, ?_⟩, ?_, ?_, ?_, free_of_blk hb1 0⟩
  · rw [blk_setCell hb1]; rfl
  · have := hg.size; have := hW.hi; simp [World.setCell]; omega
  · rw [cellsOf_snoc, List.length_append]; exact own_set_low hown h.low 0 _
  · exact own_set_low (keep hW.full (fun k hk => own_ne hW.full hW.last (by decide) hk)) h.low 0 _
  · intro p hp
    refine ⟨own_set_low (keep (hW.parts p hp).1 (fun k hk hv => ap p hp (hk.trans hv.symm))) h.low 0 _, (hW.parts p hp).2⟩
  · intro p hp heq
    rcases hat with hat | hat
    · exact ap p hp (heq.trans (by rw [hat]; rfl))
    · have := (hW.parts p hp).1.lt gg heq
      omega
  · refine Fr.setCell ?_ _ (fun _ => .inl rfl) _
    refine (f.mono (fun _ _ h => h.elim)).trans' f1 (fun k _ hk => .inr hk)
  · simp [cell_of_blk hb1]

set_option maxHeartbeats 400000 in
theorem len_any (bb : Nat) (w : World) (vl : Option Addr) (n c held : Nat) (h0 : w.cell? ⟨bb, 0, none⟩ = some (.slice vl n c)) (h2 : w.cell? ⟨bb, 2, none⟩ = some (.int .i64 held))
   (hn : held + n ≤ 1000000000) :
    Calls Try.prog 20 #[.pointer (some ⟨bb, 0, none⟩)] w fun e w' => e = .returned (.int .i64 (held + n)) ∧ ∃ m, w' = w.drewN m := by
  go_enter Try.func20, Try.ntmps20
  go_wp2
  go_quiet (fail)
  go_wp2
  go_ret
  exact ⟨rfl, _, rfl⟩

end Go.Proofs.Qxb6621698a
