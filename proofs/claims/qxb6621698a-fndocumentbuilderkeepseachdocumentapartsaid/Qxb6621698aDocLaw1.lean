/-
  FnDocumentBuilderGivesBackWhatWasAdded, walked.
-/
import Derived.Test.Qxb6621698aDocIs
import Derived.Test.Qxb6621698aDocSum
namespace Go.Proofs.Qxb6621698a
open Go.RowKit

/-- A builder just made. -/
theorem sta_new (w : World) : Sta (w.alloc (.cells #[.slice none 0 0, .slice none 0 0, .int .i64 0] 40)) (w.heap.size + 1) w.heap.size (.slice none 0 0) (.slice none 0 0) [] [] :=
  ⟨⟨heap_alloc_new w _, by omega, by simp, World.ownsRow_nil _ _ _ _, World.ownsRow_nil _ _ _ _, fun p hp => by simp at hp⟩, fun p hp => by simp at hp, fun _ => ⟨rfl, rfl⟩⟩

/-- Of old memory nothing turns where Document runs. -/
theorem DocR.old {w w1 : World} {base bb : Nat} {vl vf v : Value} {P : List (Value × List Ent)} {L : List Ent} (h : DocR w base bb vl vf P L v w1) (hs : Sta w base bb vl vf P L) : Below bb w w1 := by
  obtain ⟨_, _, _, vf', _, f, _⟩ := h
  refine f.below (Nat.le_of_lt (lt_of_heap hs.bld.blk)) (fun k hk hb => ?_)
  have hlow := hs.bld.low
  rcases hb with hb | hb
  · omega
  · have := hs.bld.full.lt k hb; omega

theorem below_of_fr {w w' : World} {B : Nat} (f : Fr (fun _ => False) w w') (hB : B ≤ w.heap.size) : Below B w w' := f.below hB (fun _ _ => id)

set_option maxRecDepth 100000 in
set_option maxHeartbeats 1600000 in
theorem give_walk (w : World) (v : Value) (es : List Ent) (hz : ZRow w w.heap.size v es) :
    Calls Try.prog 5 #[v] w fun e w' => e = .returned (.bool true) ∧ Below w.heap.size w w' := by
  obtain ⟨a, c, hv, hc⟩ := hz.cells
  obtain ⟨n, hn⟩ : ∃ n, es.length = n := ⟨_, rfl⟩
  have HZ := hide hz
  have HN := hide hn
  rw [hn] at hv hc
  have HV := hide hv
  clear hz hn
  rw [hv]
  clear hv
  go_enter Try.func5, Try.ntmps5
  go_wp2_with fail
  refine (bytes_one w es a n c hc).mono ?_
  rintro e w1 ⟨x, rfl, hx, rfl⟩
  cases x with
  | false =>
    go_wp2
    go_ret
    exact ⟨rfl, Below.refl _ _⟩
  | true =>
    have HX := hide (hx rfl)
    clear hx
    go_wp2_with fail
    refine (sum_any w1 es a n c 0 (by omega) hc HX).mono ?_
    rintro e w2 ⟨r, rfl, hr, m, rfl⟩
    by_cases hb : (1048576 : Int) < r
    · go_wp2
      go_ret
      exact ⟨rfl, below_of_fr ((Fr.refl _ _).drewN _) (Nat.le_refl _)⟩
    · have hnb : n ≤ 26215 := by have := hr (by omega); omega
      clear hr
      go_wp2_with fail
      have hs1 := sta_new (w1.drewN m)
      have hb1 : Below w1.heap.size w1 ((w1.drewN m).alloc (.cells #[.slice none 0 0, .slice none 0 0, .int .i64 0] 40)) := below_of_fr (((Fr.refl _ _).drewN _).alloc _) (Nat.le_refl _)
      obtain ⟨W1, hW1⟩ : ∃ W, W = (w1.drewN m).alloc (.cells #[.slice none 0 0, .slice none 0 0, .int .i64 0] 40) := ⟨_, rfl⟩
      rw [← hW1] at hs1 hb1 ⊢
      clear hW1
      refine (addAll_any w1.heap.size (w1.heap.size + 1) W1 _ _ _ [] [] es hs1 (by have := HN.out; simp [allOf]; omega) (by have := HZ.out.below hb1; rw [HV.out] at this; exact this)).mono ?_
      rintro e w2 ⟨rfl, hR⟩
      have hb2 := hb1.trans (hR.old hs1)
      obtain ⟨vl, vf, P, L, hs2, ha, _⟩ := hR
      have HA : Hid (allOf P L = es) := ha
      clear hs1 hb1 ha
      go_wp2_with fail
      refine (doc_any w1.heap.size (w1.heap.size + 1) w2 vl vf P L hs2 (by have := HN.out; rw [HA.out]; omega)).mono ?_
      rintro e w3 ⟨v1, rfl, hD⟩
      have hb3 := hb2.trans (hD.old hs2)
      obtain ⟨ho, hnil, _, vf', hs3, _⟩ := hD
      rw [HA.out] at ho hnil
      clear hs2 hb2
      go_wp2_with fail
      refine (docIs_any w3 (w1.heap.size + 1) w1.heap.size v1 (.slice a n c) es (by have := HN.out; omega) ho hnil (by have := HZ.out.below hb3; rw [HV.out] at this; exact this)).mono ?_
      rintro e w4 ⟨rfl, m4, rfl⟩
      go_wp2_with fail
      refine (len_sta w1.heap.size (w1.heap.size + 1) (w3.drewN m4) _ vf' [] [] 0 (hs3.quiet ((Fr.refl _ _).drewN _)) rfl (by omega)).mono ?_
      rintro e w5 ⟨rfl, m5, rfl⟩
      go_wp2_with fail
      have hs5 := hs3.quiet ((Fr.refl _ w3).drewN (m4 + m5))
      refine (doc_any w1.heap.size (w1.heap.size + 1) _ _ vf' [] [] hs5 (by simp [allOf])).mono ?_
      rintro e w6 ⟨v6, rfl, hD6⟩
      have hb6 := (hb3.trans (below_of_fr ((Fr.refl _ w3).drewN (m4 + m5)) (Nat.le_of_lt (lt_of_heap hs3.bld.blk)))).trans (hD6.old hs5)
      have hv6 : v6 = .slice none 0 0 := hD6.2.1 rfl
      subst hv6
      have hq := fun wx : World => run_eql_slice_nil0 wx
      clear hD6 hs5 ho hnil hs3 hb3
      go_wp2
      go_ret
      exact ⟨rfl, hb6⟩
end Go.Proofs.Qxb6621698a
