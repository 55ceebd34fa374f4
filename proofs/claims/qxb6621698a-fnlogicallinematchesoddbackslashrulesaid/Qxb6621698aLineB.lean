/-
  skipLineEnd and skipBlanks, walked.
-/
import Derived.Test.Qxb6621698aLineA
import Derived.Deep.LoopGhost
namespace Go.Proofs.Qxb6621698a
open Go.RowKit

/-- The line number c line ends on. -/
def lnx (l : Int) (c : Nat) : Int := wrap64 (l + c)
theorem lnx_succ (l : Int) (c : Nat) : wrap64 (lnx l c + 1) = lnx l (c + 1) := by unfold lnx wrap64; omega
theorem lnx_zero (l : Int) (h : (Lit.int .i64 l).wf = true) : lnx l 0 = l := by
  have hb : -9223372036854775808 ≤ l ∧ l ≤ 9223372036854775807 := by
    simp [Lit.wf, IntKind.min, IntKind.max, IntKind.signed, IntKind.bits] at h
    omega
  unfold lnx wrap64
  omega

/-- What skipLineEnd leaves. -/
def SkipR (w : World) (sb : Nat) (a : Option Addr) (n c p : Nat) (l : Int) (w' : World) : Prop := Fr (fun k => k = sb) w w' ∧ Scan w' sb a n c p l

set_option maxRecDepth 100000 in
set_option maxHeartbeats 1600000 in
theorem skipLineEnd_last (w : World) (sb : Nat) (a : Option Addr) (n c : Nat) (ln : Int) (hs : Scan w sb a n c n ln) :
    Calls Try.prog 26 #[.pointer (some ⟨sb, 0, none⟩)] w fun e w' => e = .returned (.tuple #[]) ∧ SkipR w sb a n c n ln w' := by
  have c0 := hs.c0
  have c1 := hs.c1
  have HS := hide hs
  clear hs
  go_enter Try.func26, Try.ntmps26
  go_wp2
  go_quiet (fail)
  go_wp2
  refine bodyPost_ret (results_none rfl _ _ _) rfl ?_
  exact ⟨rfl, (Fr.refl _ _).drewN _, HS.out⟩

theorem skip_one {w : World} {sb n c p : Nat} {a : Option Addr} {ln x : Int} {m : Nat} (h : Scan w sb a n c p ln) : SkipR w sb a n c (p + 1) x (((w.drewN m).setCell ⟨sb, 1, none⟩ (.int .i64 ((p : Int) + 1))).setCell ⟨sb, 2, none⟩ (.int .i64 x)) := by
  refine ⟨Fr.setCell (bad := fun k => k = sb) (Fr.setCell (bad := fun k => k = sb) ((Fr.refl _ _).drewN _) _ (fun _ => rfl) _) _ (fun _ => rfl) _, ?_⟩
  have h' : Scan (w.drewN m) sb a n c p ln := h
  exact (h'.set1 (p + 1) _ (by omega)).set2 x
theorem skip_two {w : World} {sb n c p : Nat} {a : Option Addr} {ln x y : Int} {m : Nat} (hy : y = (p : Int) + 2) (h : Scan w sb a n c p ln) : SkipR w sb a n c (p + 2) x ((((w.drewN m).setCell ⟨sb, 1, none⟩ (.int .i64 ((p : Int) + 1))).setCell ⟨sb, 1, none⟩ (.int .i64 y)).setCell ⟨sb, 2, none⟩ (.int .i64 x)) := by
  refine ⟨Fr.setCell (bad := fun k => k = sb) (Fr.setCell (bad := fun k => k = sb) (Fr.setCell (bad := fun k => k = sb) ((Fr.refl _ _).drewN _) _ (fun _ => rfl) _) _ (fun _ => rfl) _) _ (fun _ => rfl) _, ?_⟩
  have h' : Scan (w.drewN m) sb a n c p ln := h
  exact ((h'.set1 (p + 1) _ (by omega)).set1 (p + 2) _ (by omega)).set2 x

set_option maxRecDepth 100000 in
set_option maxHeartbeats 1600000 in
theorem skipLineEnd_one (w : World) (sb b off n c p : Nat) (ln : Int) (x : Int) (hs : Scan w sb (some ⟨b, off, none⟩) n c p ln) (hp : p < n) (hN : n ≤ 2000000) (hc : w.cell? ⟨b, off + p, none⟩ = some (.int .u8 x)) (hx : (x == 13) = false) :
    Calls Try.prog 26 #[.pointer (some ⟨sb, 0, none⟩)] w fun e w' => e = .returned (.tuple #[]) ∧ SkipR w sb (some ⟨b, off, none⟩) n c (p + 1) (wrap64 (ln + 1)) w' := by
  have c0 := hs.c0
  have c1 := hs.c1
  have c2 := hs.c2
  have g1 : w.frozen? ⟨sb, 1, none⟩ = false := free_of_blk hs 1
  have g2 : w.frozen? ⟨sb, 2, none⟩ = false := free_of_blk hs 2
  have p0 : (0 : Int) ≤ (p : Int) := by omega
  have p1 : (p : Int) < (n : Int) := by omega
  have pn : ((p : Int) == (n : Int)) = false := by simp; omega
  have HS := hide hs
  clear hs
  go_enter Try.func26, Try.ntmps26
  go_wp2
  go_quiet (fail)
  go_wp2
  go_quiet (fail)
  go_wp2
  go_end0
  exact ⟨rfl, skip_one HS.out⟩

set_option maxRecDepth 100000 in
set_option maxHeartbeats 1600000 in
theorem skipLineEnd_cr (w : World) (sb b off n c p : Nat) (ln : Int) (hs : Scan w sb (some ⟨b, off, none⟩) n c p ln) (hN : n ≤ 2000000) (hc : w.cell? ⟨b, off + p, none⟩ = some (.int .u8 13)) (hq : p + 1 = n) :
    Calls Try.prog 26 #[.pointer (some ⟨sb, 0, none⟩)] w fun e w' => e = .returned (.tuple #[]) ∧ SkipR w sb (some ⟨b, off, none⟩) n c (p + 1) (wrap64 (ln + 1)) w' := by
  have c0 := hs.c0
  have c1 := hs.c1
  have c2 := hs.c2
  have g1 : w.frozen? ⟨sb, 1, none⟩ = false := free_of_blk hs 1
  have g2 : w.frozen? ⟨sb, 2, none⟩ = false := free_of_blk hs 2
  have p0 : (0 : Int) ≤ (p : Int) := by omega
  have p1 : (p : Int) < (n : Int) := by omega
  have pn : ((p : Int) == (n : Int)) = false := by simp; omega
  have pq : decide ((p : Int) + 1 < (n : Int)) = false := decide_eq_false (by omega)
  have HS := hide hs
  clear hs
  go_enter Try.func26, Try.ntmps26
  go_wp2
  go_quiet (fail)
  go_wp2
  go_quiet (fail)
  go_wp2
  go_end0
  exact ⟨rfl, skip_one HS.out⟩

set_option maxRecDepth 100000 in
set_option maxHeartbeats 1600000 in
theorem skipLineEnd_crx (w : World) (sb b off n c p : Nat) (ln : Int) (y : Int) (hs : Scan w sb (some ⟨b, off, none⟩) n c p ln) (hN : n ≤ 2000000) (hc : w.cell? ⟨b, off + p, none⟩ = some (.int .u8 13)) (hq : p + 1 < n) (hc' : w.cell? ⟨b, off + (p + 1), none⟩ = some (.int .u8 y)) (hy : (y == 10) = false) :
    Calls Try.prog 26 #[.pointer (some ⟨sb, 0, none⟩)] w fun e w' => e = .returned (.tuple #[]) ∧ SkipR w sb (some ⟨b, off, none⟩) n c (p + 1) (wrap64 (ln + 1)) w' := by
  have c0 := hs.c0
  have c1 := hs.c1
  have c2 := hs.c2
  have g1 : w.frozen? ⟨sb, 1, none⟩ = false := free_of_blk hs 1
  have g2 : w.frozen? ⟨sb, 2, none⟩ = false := free_of_blk hs 2
  have p0 : (0 : Int) ≤ (p : Int) := by omega
  have p1 : (p : Int) < (n : Int) := by omega
  have pn : ((p : Int) == (n : Int)) = false := by simp; omega
  have q0 : (0 : Int) ≤ (p : Int) + 1 := by omega
  have q1 : (p : Int) + 1 < (n : Int) := by omega
  have HS := hide hs
  clear hs
  go_enter Try.func26, Try.ntmps26
  go_wp2
  go_quiet (fail)
  go_wp2
  go_quiet (fail)
  go_wp2
  go_end0
  exact ⟨rfl, skip_one HS.out⟩

set_option maxRecDepth 100000 in
set_option maxHeartbeats 1600000 in
theorem skipLineEnd_crlf (w : World) (sb b off n c p : Nat) (ln : Int) (hs : Scan w sb (some ⟨b, off, none⟩) n c p ln) (hN : n ≤ 2000000) (hc : w.cell? ⟨b, off + p, none⟩ = some (.int .u8 13)) (hq : p + 1 < n) (hc' : w.cell? ⟨b, off + (p + 1), none⟩ = some (.int .u8 10)) :
    Calls Try.prog 26 #[.pointer (some ⟨sb, 0, none⟩)] w fun e w' => e = .returned (.tuple #[]) ∧ SkipR w sb (some ⟨b, off, none⟩) n c (p + 2) (wrap64 (ln + 1)) w' := by
  have c0 := hs.c0
  have c1 := hs.c1
  have c2 := hs.c2
  have g1 : w.frozen? ⟨sb, 1, none⟩ = false := free_of_blk hs 1
  have g2 : w.frozen? ⟨sb, 2, none⟩ = false := free_of_blk hs 2
  have p0 : (0 : Int) ≤ (p : Int) := by omega
  have p1 : (p : Int) < (n : Int) := by omega
  have pn : ((p : Int) == (n : Int)) = false := by simp; omega
  have q0 : (0 : Int) ≤ (p : Int) + 1 := by omega
  have q1 : (p : Int) + 1 < (n : Int) := by omega
  have HS := hide hs
  clear hs
  go_enter Try.func26, Try.ntmps26
  go_wp2
  go_quiet (fail)
  go_wp2
  go_quiet (fail)
  go_wp2
  go_end0
  exact ⟨rfl, skip_two (by omega) HS.out⟩

/-- skipLineEnd, wherever it stands. -/
theorem skipLineEnd_any (w : World) (sb : Nat) (a : Option Addr) (n c p : Nat) (l : Int) (k : Nat) (D : List Int) (hs : Scan w sb a n c p (lnx l k)) (hn : n = D.length) (hr : Hid (Row .u8 w sb a D)) (hp : p ≤ n) (hN : n ≤ 2000000) :
    Calls Try.prog 26 #[.pointer (some ⟨sb, 0, none⟩)] w fun e w' => e = .returned (.tuple #[]) ∧ SkipR w sb a n c (skipE D p) (lnx l (k + incE D p)) w' := by
  by_cases h : p = n
  · have h1 : skipE D p = p := by rw [skipE, if_pos (by omega)]
    have h2 : incE D p = 0 := by rw [incE, if_pos (by omega)]
    rw [h1, h2, Nat.add_zero]
    subst h
    exact skipLineEnd_last w sb a p c _ hs
  · have h2 : incE D p = 1 := by rw [incE, if_neg (by omega)]
    rw [h2, ← lnx_succ]
    obtain ⟨b, off, ha, _, hc⟩ := hr.out p (by omega)
    subst ha
    by_cases hx : bt D p = 13
    · by_cases hq : p + 1 < n
      · obtain ⟨b', off', ha', _, hc'⟩ := hr.out (p + 1) (by omega)
        simp only [Option.some.injEq, Addr.mk.injEq, and_true] at ha'
        obtain ⟨rfl, rfl⟩ := ha'
        rw [hx] at hc
        by_cases hy : bt D (p + 1) = 10
        · have h1 : skipE D p = p + 2 := by rw [skipE, if_neg (by omega), if_pos ⟨hx, by omega, hy⟩]
          rw [h1]
          rw [hy] at hc'
          exact skipLineEnd_crlf w sb b off n c p _ hs hN hc hq hc'
        · have h1 : skipE D p = p + 1 := by rw [skipE, if_neg (by omega), if_neg (fun h => hy h.2.2)]
          rw [h1]
          exact skipLineEnd_crx w sb b off n c p _ _ hs hN hc hq hc' (by simpa using hy)
      · have h1 : skipE D p = p + 1 := by rw [skipE, if_neg (by omega), if_neg (fun h => by omega)]
        rw [h1]
        rw [hx] at hc
        exact skipLineEnd_cr w sb b off n c p _ hs hN hc (by omega)
    · have h1 : skipE D p = p + 1 := by rw [skipE, if_neg (by omega), if_neg (fun h => hx h.1)]
      rw [h1]
      exact skipLineEnd_one w sb b off n c p _ _ hs (by omega) hN hc (by simpa using hx)

end Go.Proofs.Qxb6621698a
