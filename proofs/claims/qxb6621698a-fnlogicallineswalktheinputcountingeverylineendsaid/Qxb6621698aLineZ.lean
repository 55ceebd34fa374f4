/-
  ZZLogicalLine, walked.
-/
import Derived.Test.Qxb6621698aLineL
import Derived.Test.Qxb6621698aLineN
import Derived.Test.Qxb6621698aLineE
namespace Go.Proofs.Qxb6621698a
open Go.RowKit

/-- What ZZLogicalLine leaves. -/
def ZZR (D : List Int) (w : World) (p : Nat) (l : Int) (e : Ending) (w' : World) : Prop :=
  ∃ (T J : List Int) (p' c' : Nat) (vt vj : Value), e = .returned (.tuple #[vt, .int .i64 l, vj, .int .i64 (p' : Int), .int .i64 (lnx l c')]) ∧ Runs D p [] [] 0 (T, J, p', c') ∧ RowV .u8 w' vt T ∧ RowV .i64 w' vj J ∧ Fr (fun _ => False) w w'

theorem logicalLine_any (w : World) (sb : Nat) (a : Option Addr) (n c p : Nat) (l : Int) (k : Nat) (D : List Int) (hs : Scan w sb a n c p (lnx l k)) (hn : n = D.length) (hr : Row .u8 w sb a D) (hf : Flat a n c) (hp : p ≤ n) (hN : n ≤ 2000000) :
    Calls Try.prog 22 #[.pointer (some ⟨sb, 0, none⟩)] w fun e w' => LogR D w sb a n c p l k e w' := by
  rcases hf with ⟨rfl, rfl, rfl⟩ | ⟨b, off, rfl, hnc⟩
  · obtain rfl : D = [] := List.length_eq_zero_iff.1 hn.symm
    obtain rfl : p = 0 := by omega
    exact logicalLine_nil w sb l k hs
  · exact logicalLine_at w sb b off n c p l k D hs hn (hide hr) hp hnc hN

theorem zz_end {D : List Int} {w w1 w2 : World} {p : Nat} {l : Int} {T J : List Int} {p' c' N M ct cj : Nat} {a' aj : Option Addr} (f0 : Fr (fun _ => False) w w1) (f1 : Fr (fun i => i = w.heap.size) w1 w2) (hr : Runs D p [] [] 0 (T, J, p', c')) (hN : T.length = N) (hM : J.length = M)
    (ht : Row .u8 w2 w2.heap.size a' T) (hj : Row .i64 w2 w2.heap.size aj J) (w3 : World) (f2 : Fr (fun _ => False) w2 w3) : ZZR D w p l (.returned (.tuple #[.slice a' N ct, .int .i64 l, .slice aj M cj, .int .i64 (p' : Int), .int .i64 (lnx l c')])) w3 := by
  subst hN hM
  refine ⟨T, J, p', c', _, _, rfl, hr, ⟨_, _, rfl, (ht.fr f2 (fun _ _ => id)).mono f2.size⟩, ⟨_, _, rfl, (hj.fr f2 (fun _ _ => id)).mono f2.size⟩, ?_⟩
  exact (f0.trans' f1 (fun i hi hb => by omega)).trans f2

set_option maxRecDepth 100000 in
set_option maxHeartbeats 1600000 in
theorem zz_any (w : World) (a : Option Addr) (n c p : Nat) (l : Int) (D : List Int) (hl : (Lit.int .i64 l).wf = true) (hn : n = D.length) (hr : Row .u8 w w.heap.size a D) (hf : Flat a n c) (hp : p ≤ n) (hN : n ≤ 2000000) :
    Calls Try.prog 9 #[.slice a n c, .int .i64 p, .int .i64 l] w fun e w' => ZZR D w p l e w' := by
  have HN := hide hn
  have HR := hide hr
  have HF := hide hf
  have HL := hide (lnx_zero l hl)
  clear hn hr hf hl
  go_enter Try.func9, Try.ntmps9
  go_wp2_with fail
  have f0 : Fr (fun _ => False) w (w.alloc (.cells #[.slice a n c, .int .i64 p, .int .i64 l] 48)) := (Fr.refl _ _).alloc _
  have hs : Scan (w.alloc (.cells #[.slice a n c, .int .i64 p, .int .i64 l] 48)) w.heap.size a n c p (lnx l 0) := by rw [HL.out]; exact heap_alloc_new w _
  refine (logicalLine_any _ w.heap.size a n c p l 0 D hs HN.out (HR.out.fr f0 (fun _ _ => id)) HF.out hp hN).mono ?_
  rintro e w2 ⟨T, J, p', c', vt, vj, rfl, hruns, hsc, ht, hj, f⟩
  rw [HL.out]
  rw [Nat.zero_add] at hsc
  obtain ⟨at', ct, hvt, ht'⟩ := ht
  obtain ⟨aj, cj, hvj, hj'⟩ := hj
  have s1 := hsc.c1
  have s2 := hsc.c2
  have lz := lt_of_heap hsc
  obtain ⟨N, hN'⟩ : ∃ N, T.length = N := ⟨_, rfl⟩
  obtain ⟨M, hM'⟩ : ∃ M, J.length = M := ⟨_, rfl⟩
  rw [hN'] at hvt
  rw [hM'] at hvj
  subst hvt hvj
  have HNT := hide hN'
  have HMJ := hide hM'
  have HRT := hide ht'
  have HRJ := hide hj'
  have HRU := hide hruns
  have HF2 := hide f
  have HF0 := hide f0
  clear hN' hM' ht' hj' hruns f f0 hs hsc
  go_wp2
  go_quiet (fail)
  go_wp2
  refine bodyPost_ret (v := .tuple #[.slice at' N ct, .int .i64 l, .slice aj M cj, .int .i64 (p' : Int), .int .i64 (lnx l c')]) (by simp [results, Try.results9, go_sem]) rfl ?_
  exact zz_end HF0.out HF2.out HRU.out HNT.out HMJ.out HRT.out HRJ.out _ (((Fr.refl _ _).alloc _).drewN _)
end Go.Proofs.Qxb6621698a
