/-
  zzDocIs, walked: a document held against a list.
-/
import Derived.Test.Qxb6621698aDocDoc
namespace Go.Proofs.Qxb6621698a
open Go.RowKit

theorem run_eql_slice_nil0 (w : World) : (binOp .eql 37 (.slice none 0 0) (.slice none 0 0)).run Try.prog w = .ok (.bool true) w := by kernel_rfl

set_option maxHeartbeats 400000 in
theorem docIs_none (w : World) (a : Option Addr) (c : Nat) :
    Calls Try.prog 19 #[.slice none 0 0, .slice a 0 c] w fun e w' => e = .returned (.bool true) ∧ ∃ m, w' = w.drewN m := by
  have hq := fun wx : World => run_eql_slice_nil0 wx
  go_enter Try.func19, Try.ntmps19
  go_wp2
  go_ret
  exact ⟨rfl, 0, rfl⟩

theorem own_ent {w : World} {base g cap : Nat} {es : List Ent} {n : Nat} (h : w.ownsRow base 56 3 (.slice (some ⟨g, 0, none⟩) n cap) es.length (cellsOf es)) (i : Nat) (hi : i < es.length) :
    w.cell? ⟨g, i * 3, none⟩ = some (.string (ent es i).1) ∧ w.cell? ⟨g, i * 3 + 1, none⟩ = some (.string (ent es i).2.1) ∧ w.cell? ⟨g, i * 3 + 2, none⟩ = some (.int .i64 (ent es i).2.2) := by
  have hadd : ∀ j, (⟨g, 0, none⟩ : Addr).add j = ⟨g, j, none⟩ := fun j => by unfold Addr.add; split <;> simp_all
  have hc := h.cells (g := g) rfl
  have key : ∀ (l : List Ent) (i j : Nat), i < l.length → j < 3 → (cellsOf l)[i * 3 + j]? = (cellsE (ent l i))[j]? := by
    intro l
    induction l with
    | nil => intro i j hi; simp at hi
    | cons e r ih =>
      intro i j hi hj
      cases i with
      | zero => simp only [cellsOf, List.flatMap_cons, Nat.zero_mul, Nat.zero_add]; rw [List.getElem?_append_left (by simp [cellsE]; omega)]; rfl
      | succ i =>
        have hl : (cellsE e).length = 3 := rfl
        rw [show cellsOf (e :: r) = cellsE e ++ cellsOf r from rfl, List.getElem?_append_right (by rw [hl]; omega), hl, show (i + 1) * 3 + j - 3 = i * 3 + j by omega, ih i j (by simpa using hi) hj]
        rfl
  refine ⟨?_, ?_, ?_⟩
  · have := hc (i * 3 + 0) (.string (ent es i).1) (by rw [key es i 0 hi (by omega)]; rfl)
    rwa [hadd] at this
  · have := hc (i * 3 + 1) (.string (ent es i).2.1) (by rw [key es i 1 hi (by omega)]; rfl)
    rwa [hadd] at this
  · have := hc (i * 3 + 2) (.int .i64 (ent es i).2.2) (by rw [key es i 2 hi (by omega)]; rfl)
    rwa [hadd] at this

set_option maxRecDepth 100000 in
set_option maxHeartbeats 1600000 in
theorem docIs_some (w : World) (es : List Ent) (n g cap b off c : Nat) (hn : n ≤ 1000000) (hn0 : 0 < n)
    (hd : Hid (∀ i, i < n → w.cell? ⟨g, i * 3, none⟩ = some (.string (ent es i).1) ∧ w.cell? ⟨g, i * 3 + 1, none⟩ = some (.string (ent es i).2.1) ∧ w.cell? ⟨g, i * 3 + 2, none⟩ = some (.int .i64 (ent es i).2.2)))
    (hc : Hid (∀ i, i < n → w.cell? ⟨b, off + i * 3, none⟩ = some (.string (ent es i).1) ∧ w.cell? ⟨b, off + i * 3 + 1, none⟩ = some (.string (ent es i).2.1) ∧ w.cell? ⟨b, off + i * 3 + 2, none⟩ = some (.int .i64 (ent es i).2.2))) :
    Calls Try.prog 19 #[.slice (some ⟨g, 0, none⟩) n cap, .slice (some ⟨b, off, none⟩) n c] w fun e w' => e = .returned (.bool true) ∧ ∃ m, w' = w.drewN m := by
  have hne : ((n : Int) == 0) = false := by simp; omega
  go_enter Try.func19, Try.ntmps19
  go_wp2
  go_loopw [5] (fun i wr => ∃ k : Nat, k ≤ n ∧ i = .int .i64 k ∧ ∃ m, wr = w.drewN m) (fun i _ => n - (intOf i).toNat)
  case atStart => exact ⟨0, Nat.zero_le _, rfl, 0, rfl⟩
  case round =>
    obtain ⟨k, hk, rfl, m, rfl⟩ := hrel
    by_cases hlt : k < n
    · obtain ⟨d0, d1, d2⟩ := hd.out k hlt
      obtain ⟨c0, c1, c2⟩ := hc.out k hlt
      have k0 : (0 : Int) ≤ (k : Int) := by omega
      have k1 : (k : Int) < (n : Int) := by omega
      go_wp2
      go_quiet (fail)
      go_wp2
      exact ⟨⟨k + 1, by omega, by go_num, _, rfl⟩, by simp [intOf]; omega⟩
    · go_wp2
      go_ret
      exact ⟨rfl, m, rfl⟩

/-- zzDocIs at a document that owns just the list. -/
theorem docIs_any (w : World) (base B : Nat) (v z : Value) (es : List Ent) (hn : es.length ≤ 1000000) (ho : w.ownsRow base 56 3 v es.length (cellsOf es)) (hnil : es = [] → v = .slice none 0 0) (hz : ZRow w B z es) :
    Calls Try.prog 19 #[v, z] w fun e w' => e = .returned (.bool true) ∧ ∃ m, w' = w.drewN m := by
  rcases hz with ⟨rfl, a, c, rfl⟩ | ⟨b, off, c, rfl, hb, hc⟩
  · rw [hnil rfl]
    exact docIs_none w a c
  · by_cases h0 : es = []
    · subst h0
      rw [hnil rfl]
      exact docIs_none w _ c
    · obtain ⟨g, cap, rfl, _⟩ := ho.form (List.length_pos_iff.2 h0)
      exact docIs_some w es es.length g cap b off c hn (List.length_pos_iff.2 h0) (hide (fun i hi => own_ent ho i hi)) (hide hc)
end Go.Proofs.Qxb6621698a
