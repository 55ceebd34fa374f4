/-
  FnLogicalLinesWalkTheInputCountingEveryLineEnd, walked.
-/
import Derived.Test.Qxb6621698aLineZ
import Derived.Test.Qxb6621698aLineF
namespace Go.Proofs.Qxb6621698a
open Go.RowKit

theorem lnx_lnx (l : Int) (x c : Nat) : lnx (lnx l x) c = lnx l (x + c) := by unfold lnx wrap64; omega
theorem lnx_sub (l : Int) (x c : Nat) (hc : c ≤ 2000000) : wrap64 (lnx l (x + c) - lnx l x) = (c : Int) := by unfold lnx wrap64; omega
theorem lnx_wf (l : Int) (x : Nat) : (Lit.int .i64 (lnx l x)).wf = true := wrap64_wf _

/-- The outer loop's relation. -/
def WalkR (D : List Int) (n : Nat) (line : Int) (C : Nat) (a : Option Addr) (w2 : World) (vp vl vc : Value) (wr : World) : Prop :=
  ∃ q x cl : Nat, q ≤ n ∧ vp = .int .i64 q ∧ vl = .int .i64 (lnx line x) ∧ vc = .int .i64 cl ∧ x + cnt D q = C ∧ (q < n → cl + cnt D q ≤ C) ∧ cl ≤ C + 1 ∧ Row .u8 wr w2.heap.size a D ∧ Fr (fun _ => False) w2 wr

theorem walk_next {D : List Int} {n q q' x cl C k' : Nat} {line A B : Int} {a : Option Addr} {w2 wr w4 : World} (hx : x + cnt D q = C) (hcl : q < n → cl + cnt D q ≤ C) (hlt : q < n) (hc : cl ≤ C) (g2 : q' ≤ n) (g6 : cnt D q = cnt D q' + k') (g7 : q' < n → 0 < k') (hB : lnx line x = B) (hA : lnx B k' = A)
    (hr : Row .u8 wr w2.heap.size a D) (f : Fr (fun _ => False) w2 wr) (f4 : Fr (fun _ => False) wr w4) : WalkR D n line C a w2 (.int .i64 q') (.int .i64 A) (.int .i64 ((cl : Int) + 1)) w4 := by
  have h1 := hcl hlt
  refine ⟨q', x + k', cl + 1, g2, rfl, by rw [← hA, ← hB, lnx_lnx], by go_num, by omega, fun h => by have := g7 h; omega, by omega, hr.fr f4 (fun _ _ => id), f.trans f4⟩

set_option maxRecDepth 100000 in
set_option maxHeartbeats 3200000 in
theorem lines_walk (w : World) (a : Option Addr) (n c p : Nat) (line : Int) (D : List Int) (hl : (Lit.int .i64 line).wf = true) (hn : n = D.length) (ha : a = none → n = 0 ∧ c = 0) (hr : Row .u8 w w.heap.size a D) (hp : p ≤ n) (hN : n ≤ 1048576) :
    Calls Try.prog 4 #[.slice a n c, .int .i64 p, .int .i64 line] w fun e w' => e = .returned (.bool true) ∧ Below w.heap.size w w' := by
  have HN := hide hn
  have HR := hide hr
  have HA := hide ha
  have HL := hide (lnx_zero line hl)
  have hN' : decide (n ≤ 1048576) = true := decide_eq_true hN
  clear hn hr ha hl
  go_enter Try.func4, Try.ntmps4
  go_wp2_with fail
  refine (bytes13_any w a n c p line).mono ?_
  rintro e w1 ⟨rfl, rfl⟩
  rw [hN']
  clear hN'
  go_wp2_with fail
  refine (clone_any w1 a n c D HN.out HA.out HR.out (by omega)).mono ?_
  rintro e w2 ⟨a', c', rfl, hflat, hrow, hbel⟩
  have HF := hide hflat
  have HRW := hide hrow
  have HB := hide hbel
  clear hflat hrow hbel
  go_wp2_with fail
  refine (count_any w2 a n c p D HN.out ((HR.out.fr (Fr.of_below HB.out) (fun i hi h => by omega)).mono HB.out.size) hp (by omega)).mono ?_
  rintro e w3 ⟨rfl, hw3⟩
  rw [hw3]
  clear hw3 w3
  have hcb : cnt D p ≤ n := by have := cnt_le D p; have := HN.out; omega
  obtain ⟨C, hC⟩ : ∃ C, cnt D p = C := ⟨_, rfl⟩
  rw [hC] at hcb ⊢
  have HC := hide hC
  clear hC
  go_wp2
  go_loopw [9, 10, 11] (fun vp vl vc wr => WalkR D n line C a' w2 vp vl vc wr) (fun vp _ _ _ => n - (intOf vp).toNat)
  case atStart => exact ⟨p, 0, 0, hp, rfl, by rw [HL.out], rfl, by rw [Nat.zero_add]; exact HC.out, fun _ => by rw [Nat.zero_add, HC.out]; exact Nat.le_refl _, by omega, HRW.out, Fr.refl _ _⟩
  case round =>
    obtain ⟨q, x, cl, hq, rfl, rfl, rfl, hx, hcl, hcl2, hrow, hfr⟩ := hrel
    have HX := hide hx
    have HRR := hide hrow
    have HFR := hide hfr
    have HCL := hide hcl
    clear hx hrow hfr hcl
    by_cases hlt : q < n
    · have hcl3 : cl ≤ C := by have := HCL.out hlt; omega
      obtain ⟨B, hB⟩ : ∃ B, lnx line x = B := ⟨_, rfl⟩
      have HBB := hide hB
      rw [hB]
      clear hB
      go_wp2_with fail
      refine (zz_any wr a' n c' q B D (by rw [← HBB.out]; exact lnx_wf _ _) HN.out (HRR.out.mono HFR.out.size) HF.out hq (by omega)).mono ?_
      rintro e w4 ⟨T, J, q', k', vt, vj, rfl, hruns, ⟨at', ct, rfl, hrt⟩, ⟨aj, cj, rfl, hrj⟩, f4⟩
      have F := hruns.fine (by have := HN.out; omega)
      have g1 : q < q' := F.ahead (by have := HN.out; omega)
      have g2 : q' ≤ n := by have h1 : q' ≤ D.length := F.within; have := HN.out; omega
      have g3 : T.length + q ≤ q' := by have h1 : T.length + q ≤ 0 + q' := F.text; omega
      have g4 : k' + q ≤ q' := by have h1 : k' + q ≤ 0 + q' := F.few; omega
      have g5 : k' = J.length ∨ k' = J.length + 1 := by have h1 : k' + 0 = 0 + J.length ∨ k' + 0 = 0 + J.length + 1 := F.lines; omega
      have G6 : Hid (cnt D q = cnt D q' + k') := by have h1 : cnt D q + 0 = cnt D q' + k' := F.count; show _ = _; omega
      have G7 : Hid (q' < n → 0 < k') := fun h => by have h1 : q' < D.length → 0 < k' := F.more; exact h1 (by have := HN.out; omega)
      have G8 : Hid (Good J T.length) := F.joins (Good.nil _)
      clear F hruns
      obtain ⟨A, hA⟩ : ∃ A, lnx B k' = A := ⟨_, rfl⟩
      have HAA := hide hA
      rw [hA]
      clear hA
      have hst : wrap64 (A - B) = (k' : Int) := by rw [← HAA.out, ← HBB.out, lnx_lnx]; exact lnx_sub line x k' (by omega)
      obtain ⟨N, hNT⟩ : ∃ N, T.length = N := ⟨_, rfl⟩
      obtain ⟨M, hMJ⟩ : ∃ M, J.length = M := ⟨_, rfl⟩
      rw [hNT] at g3 G8 ⊢
      rw [hMJ] at g5 ⊢
      have HMJ := hide hMJ
      have HRJ := hide hrj
      have HF4 := hide f4
      have hMb : M ≤ n := by omega
      clear hrt hrj f4 hNT hMJ
      go_wp2_with fail
      go_loop [17, 18] (fun pv jv => ∃ j : Nat, j ≤ M ∧ jv = .int .i64 j ∧ pv = .int .i64 (prevOf J j)) (fun _ jv => M - (intOf jv).toNat)
      case atStart => exact ⟨0, Nat.zero_le _, rfl, rfl⟩
      case round =>
        obtain ⟨j, hj, rfl, rfl⟩ := hrel
        by_cases hjm : j < M
        · obtain ⟨b1, o1, h1, _, c1⟩ := HRJ.out j (by have := HMJ.out; omega)
          subst h1
          have hgood := G8.out j (by have := HMJ.out; omega)
          have HP : Hid (prevOf J (j + 1) = bt J j) := by show _ = _; simp [prevOf]
          obtain ⟨y, hy⟩ : ∃ y, bt J j = y := ⟨_, rfl⟩
          obtain ⟨z, hz⟩ : ∃ z, prevOf J j = z := ⟨_, rfl⟩
          rw [hy] at c1 hgood HP
          rw [hz] at hgood ⊢
          obtain ⟨gz, gy⟩ := hgood
          have d1 : decide (y < z) = false := decide_eq_false (by omega)
          have d2 : decide ((N : Int) < y) = false := decide_eq_false (by omega)
          have j0 : (0 : Int) ≤ (j : Int) := by omega
          have j1 : (j : Int) < (M : Int) := by omega
          clear hy hz hst
          go_wp2
          exact ⟨⟨j + 1, by omega, by go_num, by rw [HP.out]⟩, by simp [intOf]; omega⟩
        · clear HRJ G8
          have hlast : WalkR D n line C a' w2 (.int .i64 q') (.int .i64 A) (.int .i64 ((cl : Int) + 1)) w4 := walk_next HX.out HCL.out hlt hcl3 g2 G6.out G7.out HBB.out HAA.out HRR.out HFR.out HF4.out
          have HLS := hide hlast
          clear hlast
          rcases g5 with g5 | g5
          · subst g5
            go_wp2
            exact ⟨HLS.out, by simp [intOf]; omega⟩
          · subst g5
            go_wp2
            exact ⟨HLS.out, by simp [intOf]; omega⟩
    · have hxC : lnx line x = wrap64 (line + (C : Int)) := by
        have h1 := HX.out
        have h2 : q = D.length := by have := HN.out; omega
        rw [h2, cnt_last, Nat.add_zero] at h1
        rw [h1]; rfl
      have hfin : Below w1.heap.size w1 wr := HB.out.trans (HFR.out.below HB.out.size (fun _ _ => id))
      have HFI := hide hfin
      clear hfin
      go_wp2
      go_ret
      exact ⟨rfl, HFI.out⟩

set_option maxHeartbeats 400000 in
theorem lines_long (w : World) (a : Option Addr) (n c : Nat) (p line : Int) (hN : ¬ n ≤ 1048576) :
    Calls Try.prog 4 #[.slice a n c, .int .i64 p, .int .i64 line] w fun e w' => e = .returned (.bool true) ∧ Below w.heap.size w w' := by
  have hN' : decide (n ≤ 1048576) = false := decide_eq_false hN
  clear hN
  go_enter Try.func4, Try.ntmps4
  go_wp2_with fail
  refine (bytes13_any w a n c p line).mono ?_
  rintro e w1 ⟨rfl, rfl⟩
  rw [hN']
  go_wp2
  go_ret
  exact ⟨rfl, Below.refl _ _⟩

set_option maxHeartbeats 400000 in
theorem lines_off (w : World) (a : Option Addr) (n c : Nat) (p line : Int) (hN : n ≤ 1048576) (hp : p < 0 ∨ (n : Int) < p) :
    Calls Try.prog 4 #[.slice a n c, .int .i64 p, .int .i64 line] w fun e w' => e = .returned (.bool true) ∧ Below w.heap.size w w' := by
  have hN' : decide (n ≤ 1048576) = true := decide_eq_true hN
  rcases hp with hp | hp
  · go_enter Try.func4, Try.ntmps4
    go_wp2_with fail
    refine (bytes13_any w a n c p line).mono ?_
    rintro e w1 ⟨rfl, rfl⟩
    rw [hN']
    go_wp2
    go_ret
    exact ⟨rfl, Below.refl _ _⟩
  · have hp0 : decide (p < 0) = false := decide_eq_false (by omega)
    go_enter Try.func4, Try.ntmps4
    go_wp2_with fail
    refine (bytes13_any w a n c p line).mono ?_
    rintro e w1 ⟨rfl, rfl⟩
    rw [hN']
    go_wp2
    go_ret
    exact ⟨rfl, Below.refl _ _⟩

/-- The law, whatever came in. -/
theorem lines_any (w : World) (a : Option Addr) (n c : Nat) (p line : Int) (D : List Int) (hl : (Lit.int .i64 line).wf = true) (hn : n = D.length) (ha : a = none → n = 0 ∧ c = 0) (hr : Row .u8 w w.heap.size a D) :
    Calls Try.prog 4 #[.slice a n c, .int .i64 p, .int .i64 line] w fun e w' => e = .returned (.bool true) ∧ Below w.heap.size w w' := by
  by_cases hN : n ≤ 1048576
  · by_cases hp : p < 0 ∨ (n : Int) < p
    · exact lines_off w a n c p line hN hp
    · obtain ⟨q, rfl⟩ := Int.eq_ofNat_of_zero_le (show 0 ≤ p by omega)
      exact lines_walk w a n c q line D hl hn ha hr (by omega) hN
  · exact lines_long w a n c p line hN
end Go.Proofs.Qxb6621698a
