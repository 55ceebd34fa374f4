/-
  FnLogicalLineMatchesOddBackslashRule, walked.
-/
import Derived.Test.Qxb6621698aLineZ
import Derived.Test.Qxb6621698aModel
namespace Go.Proofs.Qxb6621698a
open Go.RowKit

theorem RowV.below {k : IntKind} {w w' : World} {v : Value} {T : List Int} (h : RowV k w v T) (hb : Below w.heap.size w w') : RowV k w' v T := by
  obtain ⟨a, c, hv, hr⟩ := h
  exact ⟨a, c, hv, (hr.fr (Fr.of_below hb) (fun i hi h => by omega)).mono hb.size⟩
theorem RowV.quiet {k : IntKind} {w w' : World} {v : Value} {T : List Int} (h : RowV k w v T) (f : Fr (fun _ => False) w w') : RowV k w' v T := h.below (f.below (Nat.le_refl _) (fun _ _ => id))

theorem few_joins {D : List Int} {p p' c' : Nat} {T J : List Int} (h : Runs D p [] [] 0 (T, J, p', c')) (hp : p ≤ D.length) : T.length ≤ D.length ∧ J.length ≤ D.length := by
  have F := h.fine hp
  have h1 : T.length + p ≤ 0 + p' := F.text
  have h2 : c' + p ≤ 0 + p' := F.few
  have h3 : p' ≤ D.length := F.within
  have h4 : c' + 0 = 0 + J.length ∨ c' + 0 = 0 + J.length + 1 := F.lines
  omega

set_option maxRecDepth 100000 in
set_option maxHeartbeats 3200000 in
theorem rule_walk (w : World) (a : Option Addr) (n c p : Nat) (line : Int) (D : List Int) (hl : (Lit.int .i64 line).wf = true) (hn : n = D.length) (ha : a = none → n = 0 ∧ c = 0) (hr : Row .u8 w w.heap.size a D) (hp : p ≤ n) (hN : n ≤ 1048576) :
    Calls Try.prog 3 #[.slice a n c, .int .i64 p, .int .i64 line] w fun e w' => e = .returned (.bool true) ∧ Below w.heap.size w w' := by
  have HN := hide hn
  have HR := hide hr
  have HA := hide ha
  have HL := hide hl
  have hN' : decide (n ≤ 1048576) = true := decide_eq_true hN
  clear hn hr ha hl
  go_enter Try.func3, Try.ntmps3
  go_wp2_with fail
  refine (bytes7_any w a n c p line).mono ?_
  rintro e w1 ⟨rfl, rfl⟩
  rw [hN']
  clear hN'
  go_wp2_with fail
  refine (clone_any w1 a n c D HN.out HA.out HR.out (by omega)).mono ?_
  rintro e w2 ⟨a', c', rfl, hflat, hrow, hbel⟩
  have HF := hide hflat
  have HRW := hide hrow
  have HB := hide hbel
  clear hflat hrow hbel
  go_wp2_with fail
  refine (zz_any w2 a' n c' p line D HL.out HN.out HRW.out HF.out hp (by omega)).mono ?_
  rintro e w3 ⟨T, J, p', k', vt, vj, rfl, hruns, ht, hj, f3⟩
  have hb3 : Below w1.heap.size w1 w3 := HB.out.trans (f3.below HB.out.size (fun _ _ => id))
  obtain ⟨lk, hlk⟩ : ∃ lk, lnx line k' = lk := ⟨_, rfl⟩
  rw [hlk]
  have HLK := hide hlk
  clear hlk
  go_wp2_with fail
  refine (model_walk w3 a n c p line D HL.out HN.out ((HR.out.fr (Fr.of_below hb3) (fun i hi h => by omega)).mono hb3.size) hp hN).mono ?_
  rintro e w4 ⟨T2, J2, p2, k2, vt2, vj2, rfl, hruns2, ht2, hj2, hb4⟩
  have hdet := hruns.det hruns2
  simp only [Prod.mk.injEq] at hdet
  obtain ⟨rfl, rfl, rfl, rfl⟩ := hdet
  rw [HLK.out]
  obtain ⟨hTb, hJb⟩ := few_joins hruns (by have := HN.out; omega)
  have hb5 : Below w1.heap.size w1 w4 := hb3.trans (hb4.mono hb3.size)
  have HT := hide (ht.below hb4)
  have HJ := hide (hj.below hb4)
  have HT2 := hide ht2
  have HJ2 := hide hj2
  have HB5 := hide hb5
  have hTb' : T.length ≤ 4000000 := by have := HN.out; omega
  have hJb' : J.length ≤ 4000000 := by have := HN.out; omega
  clear hruns hruns2 ht hj ht2 hj2 f3 hb3 hb4 hb5 hTb hJb
  go_wp2_with fail
  refine (bytesEqual_any w4 vt vt2 T HT.out HT2.out hTb').mono ?_
  rintro e w5 ⟨rfl, m5, rfl⟩
  go_wp2_with fail
  refine (intsEqual_any (w4.drewN m5) vj vj2 J (HJ.out.quiet ((Fr.refl _ _).drewN _)) (HJ2.out.quiet ((Fr.refl _ _).drewN _)) hJb').mono ?_
  rintro e w6 ⟨rfl, m6, rfl⟩
  have HFI : Hid (Below w1.heap.size w1 (w4.drewN (m5 + m6))) := HB5.out.trans (((Fr.refl (fun _ => False) w4).drewN (m5 + m6)).below HB5.out.size (fun _ _ => id))
  go_wp2
  go_ret
  exact ⟨rfl, HFI.out⟩

set_option maxHeartbeats 400000 in
theorem rule_long (w : World) (a : Option Addr) (n c : Nat) (p line : Int) (hN : ¬ n ≤ 1048576) :
    Calls Try.prog 3 #[.slice a n c, .int .i64 p, .int .i64 line] w fun e w' => e = .returned (.bool true) ∧ Below w.heap.size w w' := by
  have hN' : decide (n ≤ 1048576) = false := decide_eq_false hN
  clear hN
  go_enter Try.func3, Try.ntmps3
  go_wp2_with fail
  refine (bytes7_any w a n c p line).mono ?_
  rintro e w1 ⟨rfl, rfl⟩
  rw [hN']
  go_wp2
  go_ret
  exact ⟨rfl, Below.refl _ _⟩

set_option maxHeartbeats 400000 in
theorem rule_off (w : World) (a : Option Addr) (n c : Nat) (p line : Int) (hN : n ≤ 1048576) (hp : p < 0 ∨ (n : Int) < p) :
    Calls Try.prog 3 #[.slice a n c, .int .i64 p, .int .i64 line] w fun e w' => e = .returned (.bool true) ∧ Below w.heap.size w w' := by
  have hN' : decide (n ≤ 1048576) = true := decide_eq_true hN
  rcases hp with hp | hp
  · go_enter Try.func3, Try.ntmps3
    go_wp2_with fail
    refine (bytes7_any w a n c p line).mono ?_
    rintro e w1 ⟨rfl, rfl⟩
    rw [hN']
    go_wp2
    go_ret
    exact ⟨rfl, Below.refl _ _⟩
  · have hp0 : decide (p < 0) = false := decide_eq_false (by omega)
    go_enter Try.func3, Try.ntmps3
    go_wp2_with fail
    refine (bytes7_any w a n c p line).mono ?_
    rintro e w1 ⟨rfl, rfl⟩
    rw [hN']
    go_wp2
    go_ret
    exact ⟨rfl, Below.refl _ _⟩

/-- The law, whatever came in. -/
theorem rule_any (w : World) (a : Option Addr) (n c : Nat) (p line : Int) (D : List Int) (hl : (Lit.int .i64 line).wf = true) (hn : n = D.length) (ha : a = none → n = 0 ∧ c = 0) (hr : Row .u8 w w.heap.size a D) :
    Calls Try.prog 3 #[.slice a n c, .int .i64 p, .int .i64 line] w fun e w' => e = .returned (.bool true) ∧ Below w.heap.size w w' := by
  by_cases hN : n ≤ 1048576
  · by_cases hp : p < 0 ∨ (n : Int) < p
    · exact rule_off w a n c p line hN hp
    · obtain ⟨q, rfl⟩ := Int.eq_ofNat_of_zero_le (show 0 ≤ p by omega)
      exact rule_walk w a n c q line D hl hn ha hr (by omega) hN
  · exact rule_long w a n c p line hN
end Go.Proofs.Qxb6621698a
