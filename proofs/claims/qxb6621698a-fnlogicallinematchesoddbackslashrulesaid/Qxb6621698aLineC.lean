/-
  skipBlanks, walked.
-/
import Derived.Test.Qxb6621698aLineB
namespace Go.Proofs.Qxb6621698a
open Go.RowKit

theorem skip_end {w wr : World} {sb n c p q : Nat} {a : Option Addr} {l : Int} {D : List Int} (hb : Hid (blk D q = blk D p)) (hs : blk D q = q) (h : SkipR w sb a n c q l wr) (m : Nat) : SkipR w sb a n c (blk D p) l (wr.drewN m) := by
  rw [← hb.out, hs]
  exact ⟨h.1.drewN _, h.2⟩
theorem skip_next {w wr : World} {sb n c q : Nat} {a : Option Addr} {l : Int} (h : SkipR w sb a n c q l wr) (m : Nat) : SkipR w sb a n c (q + 1) l ((wr.drewN m).setCell ⟨sb, 1, none⟩ (.int .i64 ((q : Int) + 1))) := by
  refine ⟨Fr.setCell (h.1.drewN _) _ (fun _ => rfl) _, ?_⟩
  have h' : Scan (wr.drewN m) sb a n c q l := h.2
  exact h'.set1 (q + 1) _ (by omega)

set_option maxRecDepth 100000 in
set_option maxHeartbeats 1600000 in
theorem skipBlanks_any (w : World) (sb : Nat) (a : Option Addr) (n c p : Nat) (l : Int) (D : List Int) (hs : Scan w sb a n c p l) (hn : n = D.length) (hr : Hid (Row .u8 w sb a D)) (hp : p ≤ n) (hN : n ≤ 2000000) :
    Calls Try.prog 28 #[.pointer (some ⟨sb, 0, none⟩)] w fun e w' => e = .returned (.tuple #[]) ∧ SkipR w sb a n c (blk D p) l w' := by
  have HN := hide hn
  have HS := hide hs
  clear hs hn
  go_enter Try.func28, Try.ntmps28
  go_wp2
  go_loopg [] (n - p) (fun g wr => ∃ q : Nat, q ≤ n ∧ g = n - q ∧ blk D q = blk D p ∧ SkipR w sb a n c q l wr)
  case atStart => exact ⟨p, hp, rfl, rfl, Fr.refl _ _, HS.out⟩
  case round =>
    obtain ⟨q, hq, hg, hbl, hR⟩ := hrel
    have HB := hide hbl
    have HG := hide hg
    have HR := hide hR
    have s0 := hR.2.c0
    have s1 := hR.2.c1
    have g1 : wr.frozen? ⟨sb, 1, none⟩ = false := free_of_blk hR.2 1
    clear hbl hg hR
    by_cases hlt : q < n
    · obtain ⟨b, off, ha, hB, hc⟩ := hr.out q (by have := HN.out; omega)
      have hc' : wr.cell? ⟨b, off + q, none⟩ = some (.int .u8 (bt D q)) := HR.out.1.cell' hc (by show ¬ b = sb; omega)
      subst ha
      have q0 : (0 : Int) ≤ (q : Int) := by omega
      have q1 : (q : Int) < (n : Int) := by omega
      obtain ⟨x, hx⟩ : ∃ x, bt D q = x := ⟨_, rfl⟩
      rw [hx] at hc'
      have HX := hide hx
      clear hx hc
      go_wp2
      go_quiet ((go_at_call 29; exact Calls.quiet_of_same (isBlank_any _ _)))
      cases hbl : isBl x
      · go_wp2
        go_end0
        exact ⟨rfl, skip_end HB (blk_stop D q (by rw [HX.out, hbl]; simp)) HR.out _⟩
      · go_wp2
        go_roundg (n - (q + 1))
        case measure => have := HG.out; omega
        case rel => exact ⟨q + 1, by omega, rfl, (blk_step D q (by have := HN.out; omega) (by rw [HX.out, hbl])).symm.trans HB.out, skip_next HR.out _⟩
    · have hd : decide ((q : Int) < (n : Int)) = false := decide_eq_false (by omega)
      go_wp2
      go_quiet ((go_at_call 29; exact Calls.quiet_of_same (isBlank_any _ _)))
      go_wp2
      go_end0
      exact ⟨rfl, skip_end HB (blk_stop D q (by have := HN.out; omega)) HR.out _⟩
end Go.Proofs.Qxb6621698a
