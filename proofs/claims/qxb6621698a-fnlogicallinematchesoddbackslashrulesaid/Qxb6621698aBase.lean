/-
  Words on worlds that all four proofs of this seat share: a frame that tells which blocks may have turned ('Fr'), what is owned under such a frame, a world put behind a letter in mid-walk.
-/
import Derived.Test.Qxb6621698aRows
import Derived.WalkKit
import Derived.WalkSpells
import Derived.WalkLawsBesides
import Derived.Deep.QuietTactic
import Derived.BigQuiet
import Derived.Deep.AppendLies
import Derived.Deep.DrawnRows
import Derived.Deep.RegionLaw
namespace Go.Proofs.Qxb6621698a
open Go.RowKit

theorem hide {p : Prop} (h : p) : Hid p := h
theorem unhide {p : Prop} (h : Hid p) : p := h

/-- w' is w but for new blocks and for the blocks that 'bad' names. -/
structure Fr (bad : Nat → Prop) (w w' : World) : Prop where
  os : w'.os = w.os
  tape : w'.tape = w.tape
  output : w'.output = w.output
  size : w.heap.size ≤ w'.heap.size
  block : ∀ k, k < w.heap.size → ¬ bad k → w'.heap[k]? = w.heap[k]?

theorem Fr.refl (bad : Nat → Prop) (w : World) : Fr bad w w := ⟨rfl, rfl, rfl, Nat.le_refl _, fun _ _ _ => rfl⟩

theorem Fr.trans {bad : Nat → Prop} {a b c : World} (h : Fr bad a b) (k : Fr bad b c) : Fr bad a c :=
  ⟨k.os.trans h.os, k.tape.trans h.tape, k.output.trans h.output, Nat.le_trans h.size k.size, fun i hi hb => (k.block i (Nat.lt_of_lt_of_le hi h.size) hb).trans (h.block i hi hb)⟩

/-- The second step may turn, besides, whatever is new in the first. -/
theorem Fr.trans' {bad bad' : Nat → Prop} {a b c : World} (h : Fr bad a b) (k : Fr bad' b c) (hb : ∀ i, i < a.heap.size → bad' i → bad i) : Fr bad a c :=
  ⟨k.os.trans h.os, k.tape.trans h.tape, k.output.trans h.output, Nat.le_trans h.size k.size, fun i hi hn => (k.block i (Nat.lt_of_lt_of_le hi h.size) (fun e => hn (hb i hi e))).trans (h.block i hi hn)⟩

theorem Fr.mono {bad bad' : Nat → Prop} {w w' : World} (h : Fr bad w w') (hb : ∀ i, i < w.heap.size → bad i → bad' i) : Fr bad' w w' :=
  ⟨h.os, h.tape, h.output, h.size, fun i hi hn => h.block i hi (fun e => hn (hb i hi e))⟩

theorem Fr.drewN {bad : Nat → Prop} {a w : World} (h : Fr bad a w) (n : Nat) : Fr bad a (w.drewN n) := ⟨h.os, h.tape, h.output, h.size, h.block⟩
theorem Fr.drew {bad : Nat → Prop} {a w : World} (h : Fr bad a w) : Fr bad a w.drew := ⟨h.os, h.tape, h.output, h.size, h.block⟩

theorem Fr.alloc {bad : Nat → Prop} {a w : World} (h : Fr bad a w) (o : Obj) : Fr bad a (w.alloc o) :=
  h.trans ⟨rfl, rfl, rfl, by simp, fun k hk _ => Below.heap_alloc _ _ _ hk⟩

theorem Fr.setCell {bad : Nat → Prop} {a w : World} (h : Fr bad a w) (p : Addr) (hp : p.block < a.heap.size → bad p.block) (u : Value) : Fr bad a (w.setCell p u) :=
  ⟨h.os, h.tape, h.output, by simpa [World.setCell] using h.size, fun k hk hn => (Below.heap_setCell w p u k (fun e => by subst e; exact hn (hp hk))).trans (h.block k hk hn)⟩

theorem Fr.grown {bad : Nat → Prop} {a w w' : World} {row : Option Nat} (h : Fr bad a w) (hg : w.grownBy w' row) (hr : ∀ k, k < a.heap.size → row = some k → bad k) : Fr bad a w' :=
  ⟨hg.os.trans h.os, hg.tape.trans h.tape, hg.output.trans h.output, Nat.le_trans h.size hg.size, fun k hk hn => (hg.block k (Nat.lt_of_lt_of_le hk h.size) (fun e => hn (hr k hk e.symm))).trans (h.block k hk hn)⟩

theorem Fr.below {bad : Nat → Prop} {w w' : World} {B : Nat} (h : Fr bad w w') (hB : B ≤ w.heap.size) (hb : ∀ k, k < B → ¬ bad k) : Below B w w' :=
  ⟨h.os, h.tape, h.output, h.size, fun k hk => h.block k (Nat.lt_of_lt_of_le hk hB) (hb k hk)⟩

theorem Fr.of_below {w w' : World} {B : Nat} (h : Below B w w') : Fr (fun k => B ≤ k) w w' :=
  ⟨h.os, h.tape, h.output, h.size, fun k _ hn => h.block k (Nat.lt_of_not_le hn)⟩

theorem lt_of_heap {w : World} {k : Nat} {o : Obj} (h : w.heap[k]? = some o) : k < w.heap.size := (Array.getElem?_eq_some_iff.1 h).1

theorem Fr.heap {bad : Nat → Prop} {w w' : World} (h : Fr bad w w') {k : Nat} {o : Obj} (ho : w.heap[k]? = some o) (hb : ¬ bad k) : w'.heap[k]? = some o :=
  (h.block k (lt_of_heap ho) hb).trans ho

theorem Fr.cell {bad : Nat → Prop} {w w' : World} (h : Fr bad w w') {p : Addr} (hp : p.block < w.heap.size) (hb : ¬ bad p.block) : w'.cell? p = w.cell? p := World.cell?_of_block (w := w) (h.block p.block hp hb)
theorem Fr.cell' {bad : Nat → Prop} {w w' : World} (h : Fr bad w w') {p : Addr} {v : Value} (hv : w.cell? p = some v) (hb : ¬ bad p.block) : w'.cell? p = some v := (h.cell (World.block_lt_of_cell? w p hv) hb).trans hv

/-- What is owned stays owned where its block has not turned. -/
theorem Fr.own {bad : Nat → Prop} {w w' : World} (h : Fr bad w w') {base : Nat} {e : TypeId} {size : Nat} {v : Value} {n : Nat} {xs : List Value} (ho : w.ownsRow base e size v n xs) (hb : ∀ k, v.ownBlock = some k → ¬ bad k) :
    w'.ownsRow base e size v n xs := by
  refine ⟨ho.1, ?_⟩
  rcases ho.2 with hn | ⟨g, cap, cur, rfl, h1, hg, rest⟩
  · exact .inl hn
  · exact .inr ⟨g, cap, cur, rfl, h1, h.heap hg (hb g rfl), rest⟩

/-- The blocks' element types tell an owned row from another block. -/
theorem own_type {w : World} {base : Nat} {e : TypeId} {size : Nat} {v : Value} {n : Nat} {xs : List Value} (ho : w.ownsRow base e size v n xs) {k : Nat} (hk : v.ownBlock = some k) : ∃ c, w.heap[k]? = some (.cells c e (0, 0)) := by
  rcases ho.2 with ⟨rfl, _⟩ | ⟨g, cap, cur, rfl, h1, hg, rest⟩
  · simp [Value.ownBlock] at hk
  · simp [Value.ownBlock] at hk
    subst hk
    exact ⟨cur, hg⟩

theorem own_ne {w : World} {base base' : Nat} {e e' : TypeId} {size size' : Nat} {v v' : Value} {n n' : Nat} {xs xs' : List Value} (ho : w.ownsRow base e size v n xs) (ho' : w.ownsRow base' e' size' v' n' xs') (hne : e ≠ e') {k : Nat} (hk : v.ownBlock = some k) : v'.ownBlock ≠ some k := by
  intro hk'
  obtain ⟨c, h1⟩ := own_type ho hk
  obtain ⟨c', h2⟩ := own_type ho' hk'
  rw [h1] at h2
  simp at h2
  exact hne h2.2

/-- A smaller base serves too. -/
theorem own_base {w : World} {base base' : Nat} {e : TypeId} {size : Nat} {v : Value} {n : Nat} {xs : List Value} (ho : w.ownsRow base e size v n xs) (hb : base' ≤ base) : w.ownsRow base' e size v n xs := by
  refine ⟨ho.1, ?_⟩
  rcases ho.2 with hn | ⟨g, cap, cur, rfl, h1, rest⟩
  · exact .inl hn
  · exact .inr ⟨g, cap, cur, rfl, Nat.le_trans hb h1, rest⟩

/-- The shape of an owned value. -/
theorem own_shape {w : World} {base : Nat} {e : TypeId} {size : Nat} {v : Value} {n : Nat} {xs : List Value} (ho : w.ownsRow base e size v n xs) :
    (v = .slice none 0 0 ∧ n = 0 ∧ xs = []) ∨ ∃ g cap, v = .slice (some ⟨g, 0, none⟩) n cap ∧ base ≤ g ∧ g < w.heap.size ∧ n ≤ cap ∧ cap ≤ maxLen := by
  rcases ho.2 with ⟨rfl, rfl⟩ | ⟨g, cap, cur, rfl, h1, hg, h2, h3, _⟩
  · exact .inl ⟨rfl, rfl, by simpa using ho.1⟩
  · exact .inr ⟨g, cap, rfl, h1, lt_of_heap hg, h2, h3⟩

/-- A WORLD PUT BEHIND A LETTER in mid-walk: of it is known what R says. -/
theorem wp_world {P : Program} {c : Code} {Q : Exit → Act → World → Prop} {a : Act} {w : World} (R : World → Prop) (h : R w) (k : ∀ wc, R wc → Code.wp P c Q a wc) : Code.wp P c Q a w := k w h

theorem cell_of_blk {w : World} {b : Nat} {cs : Array Value} {t : TypeId} {fr : Nat × Nat} (h : w.heap[b]? = some (.cells cs t fr)) (i : Nat) : w.cell? ⟨b, i, none⟩ = cs[i]? := by simp [World.cell?, h]
theorem free_of_blk {w : World} {b : Nat} {cs : Array Value} {t : TypeId} (h : w.heap[b]? = some (.cells cs t (0, 0))) (i : Nat) : w.frozen? ⟨b, i, none⟩ = false := by simp [World.frozen?, h]

/-- A store into a block that is known whole. -/
theorem blk_setCell {w : World} {b : Nat} {cs : Array Value} {t : TypeId} {fr : Nat × Nat} (h : w.heap[b]? = some (.cells cs t fr)) (i : Nat) (u : Value) : (w.setCell ⟨b, i, none⟩ u).heap[b]? = some (.cells (cs.setIfInBounds i u) t fr) := by
  simp [World.setCell, Array.getElem?_modify, h]

end Go.Proofs.Qxb6621698a
