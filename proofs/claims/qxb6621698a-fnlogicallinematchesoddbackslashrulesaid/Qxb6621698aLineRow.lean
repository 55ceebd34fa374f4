/-
  A slice of bytes that came in, as the frame tells it, in the walks' words.
-/
import Derived.Test.Qxb6621698aLineA
namespace Go.Proofs.Qxb6621698a
open Go.RowKit

theorem plain_addr {w : World} {a : Addr} {v : Value} (h : w.cell? a = some v) : ∃ b off, a = ⟨b, off, none⟩ := by
  obtain ⟨b, off, sp⟩ := a
  cases sp with
  | none => exact ⟨b, off, rfl⟩
  | some s => simp [World.cell?] at h; split at h <;> simp at h

theorem row_open {w : World} {a : Option Addr} {len cap : Nat} {zs : List Int}
    (h : (a = none ∧ len = 0 ∧ cap = 0 ∧ zs = []) ∨ ∃ x, a = some x ∧ len ≤ cap ∧ cap ≤ maxLen ∧ zs.length = cap ∧ (∀ i, i < zs.length → w.cell? (x.add i) = some (.int .u8 (zs.getD i 0))) ∧ ∀ n ∈ zs, (Lit.int .u8 n).wf = true) :
    ∃ D : List Int, len = D.length ∧ (a = none → len = 0 ∧ cap = 0) ∧ Row .u8 w w.heap.size a D := by
  rcases h with ⟨rfl, rfl, rfl, rfl⟩ | ⟨x, rfl, hl, _, hz, hc, _⟩
  · exact ⟨[], rfl, fun _ => ⟨rfl, rfl⟩, fun i hi => by simp at hi⟩
  · refine ⟨zs.take len, by simp; omega, (fun h => by cases h), fun i hi => ?_⟩
    have hi' : i < len := by simp at hi; omega
    have h0 := hc 0 (by omega)
    have hx : x.add 0 = x := by simp [Addr.add]
    rw [hx] at h0
    obtain ⟨b, off, rfl⟩ := plain_addr h0
    have h1 := hc i (by omega)
    have hadd : (⟨b, off, none⟩ : Addr).add i = ⟨b, off + i, none⟩ := by unfold Addr.add; split <;> simp_all
    rw [hadd] at h1
    refine ⟨b, off, rfl, World.block_lt_of_cell? w _ h0, ?_⟩
    rw [h1]
    have : bt (zs.take len) i = zs.getD i 0 := by
      unfold bt
      rw [List.getD_eq_getElem?_getD, List.getElem?_take, if_pos hi', List.getD_eq_getElem?_getD]
    rw [this]
end Go.Proofs.Qxb6621698a
