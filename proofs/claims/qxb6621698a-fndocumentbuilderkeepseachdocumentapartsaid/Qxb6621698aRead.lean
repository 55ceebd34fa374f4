/-
  A slice of entries that came in, read: its cells.
-/
import Derived.Test.Qxb6621698aDocAll
import Derived.ProofKit
import Derived.Deep.Slices
import Derived.Deep.Strs
namespace Go.Proofs.Qxb6621698a
open Go.RowKit Go.ChangeShapes Go.WideShapes

theorem Try.cells54 : Try.prog.cellsOf 54 = 3 := by kernel_rfl
theorem Try.cells9 : Try.prog.cellsOf 9 = 1 := by kernel_rfl
theorem Try.cells3 : Try.prog.cellsOf 3 = 1 := by kernel_rfl

theorem addr_add (b off j : Nat) : (⟨b, off, none⟩ : Addr).add j = ⟨b, off + j, none⟩ := by unfold Addr.add; split <;> simp_all

theorem addr_plain {w : World} {a : Addr} {v : Value} (h : w.cell? a = some v) : ∃ b off, a = ⟨b, off, none⟩ := by
  obtain ⟨b, off, sp⟩ := a
  cases sp with
  | none => exact ⟨b, off, rfl⟩
  | some s => simp [World.cell?] at h; split at h <;> simp at h

/-- The slice as its entries. -/
theorem zrow_open {H : Type} {enc : TypeId × Value → H} {w : World} {base : Nat} {spare : Nat → Bool} {held : Bool} {fuel : Nat} {v : Value} {x : DataW H × List MemPlace} (h : DataW.trod enc Try.prog w base spare held fuel 33 [v] = some x) : ∃ es, ZRow w w.heap.size v es := by
  rcases Go.Deep.open_slice Try.underlying33 h with ⟨hcs, _⟩ | ⟨a, len, cap, m, n, D, Pl, hcs, _, _, _, hm, _, hx⟩
  · simp at hcs
    subst hcs
    exact ⟨[], .inl ⟨rfl, _, _, rfl⟩⟩
  · simp at hcs
    subst hcs
    have hlm : len ≤ m := by rw [hm]; split <;> omega
    have each : ∀ i, i < len → ∃ e : Ent, w.cell? (a.add (i * 3)) = some (.string e.1) ∧ w.cell? (a.add (i * 3 + 1)) = some (.string e.2.1) ∧ w.cell? (a.add (i * 3 + 2)) = some (.int .i64 e.2.2) := by
      intro i hi
      obtain ⟨cs, h1, h2⟩ := hx i (by omega)
      rw [Try.cells54] at h1
      obtain ⟨_, hlen, hcell⟩ := World.cells?_some h1
      obtain ⟨y0, y1, y2, k, _, _, g0, g1, g2⟩ := Go.Deep.trod_struct3 Try.underlying54 h2
      match cs, hlen with
      | [u0, u1, u2], _ =>
        simp [Try.cells9, Try.cells3] at g0 g1 g2
        obtain ⟨s0, e0, _⟩ := DataW.trod_string Try.underlying9 g0
        obtain ⟨s1, e1, _⟩ := DataW.trod_string Try.underlying9 g1
        obtain ⟨l, e2, _⟩ := DataW.trod_int Try.underlying3 g2
        simp at e0 e1 e2
        subst e0 e1 e2
        have c0 := hcell 0 (by omega)
        have c1 := hcell 1 (by omega)
        have c2 := hcell 2 (by omega)
        rw [Go.Deep.add_add] at c0 c1 c2
        exact ⟨(s0, s1, l), by simpa using c0, by simpa using c1, by simpa using c2⟩
    obtain ⟨f, hf⟩ := Go.Deep.choose_lt each
    refine ⟨(List.range len).map f, ?_⟩
    by_cases h0 : len = 0
    · subst h0
      exact .inl ⟨rfl, _, _, rfl⟩
    · have h1 := (hf 0 (by omega)).1
      obtain ⟨b, off, ha⟩ := addr_plain h1
      have hab : ∃ o, a = ⟨b, o, none⟩ := by
        have h2 : a.add (0 * 3) = a := by simp [Addr.add]
        rw [h2] at ha
        exact ⟨off, ha⟩
      obtain ⟨o, rfl⟩ := hab
      refine .inr ⟨b, o, cap, by simp, World.block_lt_of_cell? w _ (by rw [addr_add] at h1; exact h1), fun i hi => ?_⟩
      have hi' : i < len := by simpa using hi
      have he : ent ((List.range len).map f) i = f i := by simp [ent, hi']
      obtain ⟨c0, c1, c2⟩ := hf i hi'
      rw [addr_add] at c0 c1 c2
      rw [he]
      exact ⟨c0, by rw [Nat.add_assoc]; exact c1, by rw [Nat.add_assoc]; exact c2⟩
end Go.Proofs.Qxb6621698a
