/-
  The scanner in memory; isBlank, zzIsBlank, lineEndsAt, atLineEnd walked.
-/
import Derived.Test.Qxb6621698aBase
import Derived.Test.Qxb6621698aCount
namespace Go.Proofs.Qxb6621698a
open Go.RowKit

/-- The numbers D lie in memory from address a on, below block B. -/
def Row (k : IntKind) (w : World) (B : Nat) (a : Option Addr) (D : List Int) : Prop := ∀ i, i < D.length → ∃ b off, a = some ⟨b, off, none⟩ ∧ b < B ∧ w.cell? ⟨b, off + i, none⟩ = some (.int k (bt D i))

theorem Row.fr {k : IntKind} {w w' : World} {B : Nat} {a : Option Addr} {D : List Int} {bad : Nat → Prop} (h : Row k w B a D) (f : Fr bad w w') (hb : ∀ i, i < B → ¬ bad i) : Row k w' B a D := fun i hi => by
  obtain ⟨b, off, ha, hB, hc⟩ := h i hi
  exact ⟨b, off, ha, hB, f.cell' hc (hb b hB)⟩
theorem Row.mono {k : IntKind} {w : World} {B B' : Nat} {a : Option Addr} {D : List Int} (h : Row k w B a D) (hB : B ≤ B') : Row k w B' a D := fun i hi => by
  obtain ⟨b, off, ha, hb, hc⟩ := h i hi
  exact ⟨b, off, ha, by omega, hc⟩

/-- The scanner: its three cells. -/
def Scan (w : World) (sb : Nat) (a : Option Addr) (n c p : Nat) (ln : Int) : Prop := w.heap[sb]? = some (.cells #[.slice a n c, .int .i64 p, .int .i64 ln] 48 (0, 0))

theorem Scan.c0 {w : World} {sb : Nat} {a : Option Addr} {n c p : Nat} {ln : Int} (h : Scan w sb a n c p ln) : w.cell? ⟨sb, 0, none⟩ = some (.slice a n c) := by simp [cell_of_blk h]
theorem Scan.c1 {w : World} {sb : Nat} {a : Option Addr} {n c p : Nat} {ln : Int} (h : Scan w sb a n c p ln) : w.cell? ⟨sb, 1, none⟩ = some (.int .i64 p) := by simp [cell_of_blk h]
theorem Scan.c2 {w : World} {sb : Nat} {a : Option Addr} {n c p : Nat} {ln : Int} (h : Scan w sb a n c p ln) : w.cell? ⟨sb, 2, none⟩ = some (.int .i64 ln) := by simp [cell_of_blk h]
theorem Scan.set1 {w : World} {sb : Nat} {a : Option Addr} {n c p : Nat} {ln : Int} (h : Scan w sb a n c p ln) (q : Nat) (x : Int) (hx : x = (q : Int)) : Scan (w.setCell ⟨sb, 1, none⟩ (.int .i64 x)) sb a n c q ln := by
  subst hx
  unfold Scan
  rw [blk_setCell h]; rfl
theorem Scan.set2 {w : World} {sb : Nat} {a : Option Addr} {n c p : Nat} {ln : Int} (h : Scan w sb a n c p ln) (x : Int) : Scan (w.setCell ⟨sb, 2, none⟩ (.int .i64 x)) sb a n c p x := by
  unfold Scan
  rw [blk_setCell h]; rfl
theorem Scan.fr {w w' : World} {sb : Nat} {a : Option Addr} {n c p : Nat} {ln : Int} {bad : Nat → Prop} (h : Scan w sb a n c p ln) (f : Fr bad w w') (hb : ¬ bad sb) : Scan w' sb a n c p ln := f.heap h hb

set_option maxHeartbeats 400000 in
theorem isBlank_any (c : Int) (w : World) : Calls Try.prog 29 #[.int .u8 c] w fun e w' => e = .returned (.bool (isBl c)) ∧ w' = w := by
  cases h1 : c == 32
  · cases h2 : c == 9
    · cases h3 : c == 12
      all_goals
        have hb : isBl c = (c == 12) := by unfold isBl; rw [h1, h2]; rfl
        rw [hb, h3]
        clear hb
        go_enter Try.func29, Try.ntmps29
        go_wp2
        go_ret
        exact ⟨rfl, rfl⟩
    · have hb : isBl c = true := by unfold isBl; rw [h1, h2]; rfl
      rw [hb]
      clear hb
      go_enter Try.func29, Try.ntmps29
      go_wp2
      go_ret
      exact ⟨rfl, rfl⟩
  · have hb : isBl c = true := by unfold isBl; rw [h1]; rfl
    rw [hb]
    clear hb
    go_enter Try.func29, Try.ntmps29
    go_wp2
    go_ret
    exact ⟨rfl, rfl⟩

set_option maxHeartbeats 400000 in
theorem zzIsBlank_any (c : Int) (w : World) : Calls Try.prog 23 #[.int .u8 c] w fun e w' => e = .returned (.bool (isBl c)) ∧ w' = w := by
  cases h1 : c == 32
  · cases h2 : c == 9
    · cases h3 : c == 12
      all_goals
        have hb : isBl c = (c == 12) := by unfold isBl; rw [h1, h2]; rfl
        rw [hb, h3]
        clear hb
        go_enter Try.func23, Try.ntmps23
        go_wp2
        go_ret
        exact ⟨rfl, rfl⟩
    · have hb : isBl c = true := by unfold isBl; rw [h1, h2]; rfl
      rw [hb]
      clear hb
      go_enter Try.func23, Try.ntmps23
      go_wp2
      go_ret
      exact ⟨rfl, rfl⟩
  · have hb : isBl c = true := by unfold isBl; rw [h1]; rfl
    rw [hb]
    clear hb
    go_enter Try.func23, Try.ntmps23
    go_wp2
    go_ret
    exact ⟨rfl, rfl⟩

set_option maxHeartbeats 1600000 in
theorem lineEndsAt_any (w : World) (sb : Nat) (a : Option Addr) (n c p : Nat) (ln : Int) (D : List Int) (i : Nat) (hs : Scan w sb a n c p ln) (hn : n = D.length) (hr : Hid (Row .u8 w sb a D)) (hi : i ≤ n) (hN : n ≤ 2000000) :
    Calls Try.prog 25 #[.pointer (some ⟨sb, 0, none⟩), .int .i64 i] w fun e w' => e = .returned (.bool (isEnd D i)) ∧ w' = w := by
  have c0 := hs.c0
  by_cases h : i = n
  · have hb : isEnd D i = true := by unfold isEnd; rw [h, hn]; simp
    rw [hb]
    subst h
    clear hb hn hi
    go_enter Try.func25, Try.ntmps25
    go_wp2
    go_ret
    exact ⟨rfl, rfl⟩
  · have hne : ((i : Int) == (n : Int)) = false := by simp; omega
    have hne' : (i == D.length) = false := by simp; omega
    obtain ⟨b, off, ha, _, hc⟩ := hr.out i (by omega)
    subst ha
    have i0 : (0 : Int) ≤ (i : Int) := by omega
    have i1 : (i : Int) < (n : Int) := by omega
    have hb : isEnd D i = (bt D i == 10 || bt D i == 13) := by unfold isEnd; rw [hne']; rfl
    rw [hb]
    clear hb hne' hn hi h hr
    obtain ⟨x, hx⟩ : ∃ x, bt D i = x := ⟨_, rfl⟩
    rw [hx] at hc ⊢
    clear hx
    cases h1 : x == 10
    · cases h2 : x == 13
      all_goals
        go_enter Try.func25, Try.ntmps25
        go_wp2
        go_ret
        exact ⟨rfl, rfl⟩
    · go_enter Try.func25, Try.ntmps25
      go_wp2
      go_ret
      exact ⟨rfl, rfl⟩

set_option maxHeartbeats 400000 in
theorem atLineEnd_any (w : World) (sb : Nat) (a : Option Addr) (n c p : Nat) (ln : Int) (D : List Int) (hs : Scan w sb a n c p ln) (hn : n = D.length) (hr : Hid (Row .u8 w sb a D)) (hi : p ≤ n) (hN : n ≤ 2000000) :
    Calls Try.prog 27 #[.pointer (some ⟨sb, 0, none⟩)] w fun e w' => e = .returned (.bool (isEnd D p)) ∧ w' = w := by
  have c1 := hs.c1
  have HN := hide hn
  clear hn
  go_enter Try.func27, Try.ntmps27
  go_wp2_with fail
  refine (lineEndsAt_any w sb a n c p ln D p hs HN.out hr hi hN).mono ?_
  rintro e w1 ⟨rfl, rfl⟩
  go_wp2
  go_ret
  exact ⟨rfl, rfl⟩
end Go.Proofs.Qxb6621698a
