/-
  zzCloneBytes, zzCountLineEnds, the bounds, zzBytesEqual, zzIntsEqual: walked.
-/
import Derived.Test.Qxb6621698aLineL0
import Derived.Laws.CopyOwn
namespace Go.Proofs.Qxb6621698a
open Go.RowKit

/-- A slice of bytes as the walks take it: nil, or at a plain address. -/
def Flat (a : Option Addr) (n c : Nat) : Prop := (a = none ∧ n = 0 ∧ c = 0) ∨ ∃ b off, a = some ⟨b, off, none⟩ ∧ n ≤ c

def CloneR (D : List Int) (n : Nat) (w : World) (e : Ending) (w' : World) : Prop := ∃ a c, e = .returned (.slice a n c) ∧ Flat a n c ∧ Row .u8 w' w'.heap.size a D ∧ Below w.heap.size w w'

theorem clone_end {w w2 : World} {D : List Int} {n : Nat} {cur : List Value} (hn : n = D.length) (hc : cur.length = n) (h : Hid (w2.heap[w.heap.size]? = some (.cells (splice cur 0 (D.map (Value.int .u8))).toArray 5 (0, 0)))) (hb : Below w.heap.size w w2) : CloneR D n w (.returned (.slice (some ⟨w.heap.size, 0, none⟩) n n)) w2 := by
  refine ⟨_, n, rfl, .inr ⟨_, _, rfl, Nat.le_refl _⟩, fun i hi => ⟨_, _, rfl, lt_of_heap h.out, ?_⟩, hb⟩
  have hs : splice cur 0 (D.map (Value.int .u8)) = D.map (Value.int .u8) := by
    unfold splice
    rw [List.drop_of_length_le (by rw [List.length_map]; omega)]
    simp
  rw [cell_of_blk h.out, hs]
  simp [bt, hi]

theorem made_block {w w1 : World} {n : Nat} {ys : List Value} (h : w1.ownsRow w.heap.size 5 1 (.slice (some ⟨w.heap.size, 0, none⟩) n n) n ys) (hg : w.grownBy w1 none) : ∃ cur : List Value, Hid (w1.heap[w.heap.size]? = some (.cells cur.toArray 5 (0, 0))) ∧ Hid (cur.length = n) ∧ Below w.heap.size w w1 := by
  rcases h.2 with ⟨hv, _⟩ | ⟨g, cap, cur, hv, _, hb, _, _, hs, _⟩
  · simp at hv
  · simp only [Value.slice.injEq, Option.some.injEq, Addr.mk.injEq, and_true, true_and] at hv
    obtain ⟨rfl, rfl⟩ := hv
    exact ⟨cur.toList, by show _ = _; simpa using hb, by show _ = _; simpa using hs, (Below.refl _ _).grown hg (Nat.le_refl _) (fun k hk => by cases hk)⟩

theorem clone_src {w w1 : World} {x : Addr} {g : Nat} {D : List Int} (hr : Hid (Row .u8 w w.heap.size (some x) D)) (hb : Below w.heap.size w w1) :
    0 < (D.map (Value.int .u8)).length → some (⟨g, 0, none⟩ : Addr) = some ⟨g, 0, none⟩ ∧ ∃ ad, some x = some ad ∧ ∀ j v, (D.map (Value.int .u8))[j]? = some v → w1.cell? (ad.add j) = some v := fun h0 => by
  refine ⟨rfl, x, rfl, fun j v hv => ?_⟩
  have hj : j < D.length := by
    rcases Nat.lt_or_ge j D.length with h | h
    · exact h
    · rw [List.getElem?_eq_none (by simpa using h)] at hv; cases hv
  obtain ⟨b, off, hx, hB, hc⟩ := hr.out j hj
  simp only [Option.some.injEq] at hx
  subst hx
  have hadd : (⟨b, off, none⟩ : Addr).add j = ⟨b, off + j, none⟩ := by unfold Addr.add; split <;> simp_all
  rw [hadd, hb.cell (p := ⟨b, off + j, none⟩) hB, hc]
  rw [List.getElem?_map, List.getElem?_eq_getElem hj] at hv
  simp only [Option.map_some, Option.some.injEq] at hv
  rw [← hv]
  simp [bt, hj]

theorem size5 : (Try.prog.info? 5).map (·.size) = some 1 := by kernel_rfl
set_option maxRecDepth 100000 in
set_option maxHeartbeats 1600000 in
theorem clone_some (w : World) (x : Addr) (n c : Nat) (D : List Int) (hn : n = D.length) (hr : Hid (Row .u8 w w.heap.size (some x) D)) (hN : n ≤ 2000000) :
    Calls Try.prog 8 #[.slice (some x) n c] w fun e w' => CloneR D n w e w' := by
  obtain ⟨i5, hi5, hz50, hz51, hz52⟩ := info_parts info5
  have HN := hide hn
  clear hn
  have hq := fun wx : World => Lib.run_eql_slice_nil (P := Try.prog) wx 22 5 (some x) n c 0 0 Try.underlying22
  go_enter Try.func8, Try.ntmps8
  go_wp2_with (first | (at_make; refine wpList_make_full _ rfl (.tmp 7) (.tmp 7) 22 rfl w.heap.size 5 i5 _ 1 Try.underlying22 hi5 hz50 hz51 .i64 .i64 _ _ n rfl rfl (by omega) (by omega) (by rw [hz52]; omega) (by unfold maxLen; omega) (Nat.le_refl _) ?_; intro w1 hown hgrow; obtain ⟨cur, hcur, hcl, hb1⟩ := made_block hown hgrow) | (have _t := hcur; refine wpList_copy_splice rfl (.tmp 9) (.tmp 10) 22 22 rfl 5 Try.underlying22 size5 (some ⟨w.heap.size, 0, none⟩) (some x) n n n c rfl rfl w.heap.size 0 cur 5 hcur.out (D.map (Value.int .u8)) (by have := HN.out; simp; omega) (clone_src hr hb1) (by have := HN.out; have := hcl.out; simp; omega) (ints_oneCell _ _) w.heap.size w hb1 (Nat.le_refl _) ?_; intro w2 hg2 hb2))
  go_ret
  exact clone_end HN.out hcl.out hg2 hb2

set_option maxHeartbeats 400000 in
theorem clone_nil (w : World) : Calls Try.prog 8 #[.slice none 0 0] w fun e w' => CloneR [] 0 w e w' := by
  have hq := fun wx : World => Lib.run_eql_slice_nil (P := Try.prog) wx 22 5 none 0 0 0 0 Try.underlying22
  go_enter Try.func8, Try.ntmps8
  go_wp2
  go_ret
  exact ⟨none, 0, rfl, .inl ⟨rfl, rfl, rfl⟩, fun i hi => by simp at hi, Below.refl _ _⟩

/-- zzCloneBytes, whatever came in. -/
theorem clone_any (w : World) (a : Option Addr) (n c : Nat) (D : List Int) (hn : n = D.length) (ha : a = none → n = 0 ∧ c = 0) (hr : Row .u8 w w.heap.size a D) (hN : n ≤ 2000000) :
    Calls Try.prog 8 #[.slice a n c] w fun e w' => CloneR D n w e w' := by
  cases a with
  | none =>
    obtain ⟨rfl, rfl⟩ := ha rfl
    obtain rfl : D = [] := List.length_eq_zero_iff.1 hn.symm
    exact clone_nil w
  | some x => exact clone_some w x n c D hn (hide hr) hN
end Go.Proofs.Qxb6621698a
