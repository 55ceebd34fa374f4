/-
  FnDocumentBuilderKeepsEachDocumentApart, walked.
-/
import Derived.Test.Qxb6621698aDocLaw1
namespace Go.Proofs.Qxb6621698a
open Go.RowKit

/-- A document that was given away stays as it is while the builder goes on. -/
theorem AllR.apart {w w1 : World} {base bb : Nat} {vl vf v : Value} {P : List (Value × List Ent)} {L : List Ent} {xs : List Ent} {n : Nat} {cs : List Value} (h : AllR w base bb vl vf P L xs w1) (hs : Sta w base bb vl vf P L) (ho : w.ownsRow base 56 3 v n cs) (hv : ∀ k, v.ownBlock = some k → vl.ownBlock ≠ some k) :
    w1.ownsRow base 56 3 v n cs := by
  obtain ⟨vl2, vf2, P2, L2, s2, a2, f2, n2, m2⟩ := h
  refine f2.own ho (fun k hk hb => ?_)
  have hlow := hs.bld.low
  rcases hb with hb | hb | hb
  · have := ho.lt k hk; omega
  · exact hv k hk hb
  · exact own_ne ho hs.bld.full (by decide) hk hb

theorem DocR.apart {w w1 : World} {base bb : Nat} {vl vf v v' : Value} {P : List (Value × List Ent)} {L : List Ent} {n : Nat} {cs : List Value} (h : DocR w base bb vl vf P L v' w1) (hs : Sta w base bb vl vf P L) (ho : w.ownsRow base 56 3 v n cs) :
    w1.ownsRow base 56 3 v n cs := by
  obtain ⟨_, _, _, vf', _, f, _⟩ := h
  refine f.own ho (fun k hk hb => ?_)
  have hlow := hs.bld.low
  rcases hb with hb | hb
  · have := ho.lt k hk; omega
  · exact own_ne ho hs.bld.full (by decide) hk hb

set_option maxRecDepth 100000 in
set_option maxHeartbeats 1600000 in
theorem apart_walk (w : World) (v z : Value) (es fs : List Ent) (hz : ZRow w w.heap.size v es) (hy : ZRow w w.heap.size z fs) :
    Calls Try.prog 6 #[v, z] w fun e w' => e = .returned (.bool true) ∧ Below w.heap.size w w' := by
  obtain ⟨a, c, hv, hc⟩ := hz.cells
  obtain ⟨b, d, hu, hd⟩ := hy.cells
  obtain ⟨n, hn⟩ : ∃ n, es.length = n := ⟨_, rfl⟩
  obtain ⟨n', hn'⟩ : ∃ n, fs.length = n := ⟨_, rfl⟩
  have HZ := hide hz
  have HN := hide hn
  have HY := hide hy
  have HN' := hide hn'
  rw [hn] at hv hc
  rw [hn'] at hu hd
  have HV := hide hv
  have HU := hide hu
  clear hz hn hy hn'
  rw [hv, hu]
  clear hv hu
  go_enter Try.func6, Try.ntmps6
  go_wp2_with fail
  refine (bytes_two w es fs a b n c n' d hc hd).mono ?_
  rintro e w1 ⟨x, rfl, hx, rfl⟩
  cases x with
  | false =>
    go_wp2
    go_ret
    exact ⟨rfl, Below.refl _ _⟩
  | true =>
    have HX := hide (hx rfl).1
    have HX' := hide (hx rfl).2
    clear hx
    go_wp2_with fail
    refine (sum_any w1 es a n c 0 (by omega) hc HX).mono ?_
    rintro e w2 ⟨r, rfl, hr, m, rfl⟩
    by_cases hb : (1048576 : Int) < r
    · go_wp2
      go_ret
      exact ⟨rfl, below_of_fr ((Fr.refl _ _).drewN _) (Nat.le_refl _)⟩
    · have hnb := hr (by omega)
      clear hr
      go_wp2_with fail
      refine (sum_any (w1.drewN m) fs b n' d r (by omega) hd HX').mono ?_
      rintro e w2 ⟨r', rfl, hr', m', rfl⟩
      by_cases hb' : (1048576 : Int) < r'
      · go_wp2
        go_ret
        exact ⟨rfl, below_of_fr ((Fr.refl _ _).drewN _) (Nat.le_refl _)⟩
      · have hnb' := hr' (by omega)
        have hsum : n + n' ≤ 26215 := by omega
        clear hr' hnb hnb' HX HX'
        go_wp2_with fail
        have hs1 := sta_new (w1.drewN (m + m'))
        have hb1 : Below w1.heap.size w1 ((w1.drewN (m + m')).alloc (.cells #[.slice none 0 0, .slice none 0 0, .int .i64 0] 40)) := below_of_fr (((Fr.refl _ _).drewN _).alloc _) (Nat.le_refl _)
        obtain ⟨W1, hW1⟩ : ∃ W, W = (w1.drewN (m + m')).alloc (.cells #[.slice none 0 0, .slice none 0 0, .int .i64 0] 40) := ⟨_, rfl⟩
        rw [← hW1] at hs1 hb1 ⊢
        clear hW1
        refine (addAll_any w1.heap.size (w1.heap.size + 1) W1 _ _ _ [] [] es hs1 (by have := HN.out; simp [allOf]; omega) (by have := HZ.out.below hb1; rw [HV.out] at this; exact this)).mono ?_
        rintro e w2 ⟨rfl, hR⟩
        have hb2 := hb1.trans (hR.old hs1)
        obtain ⟨vl, vf, P, L, hs2, ha, _⟩ := hR
        have HA : Hid (allOf P L = es) := ha
        clear hs1 hb1 ha
        go_wp2_with fail
        refine (doc_any w1.heap.size (w1.heap.size + 1) w2 vl vf P L hs2 (by have := HN.out; rw [HA.out]; omega)).mono ?_
        rintro e w3 ⟨v1, rfl, hD⟩
        have hb3 := hb2.trans (hD.old hs2)
        obtain ⟨ho, hnil, _, vf', hs3, _⟩ := hD
        rw [HA.out] at ho hnil
        clear hs2 hb2 HA
        go_wp2_with fail
        refine (len_sta w1.heap.size (w1.heap.size + 1) w3 _ vf' [] [] 0 hs3 rfl (by omega)).mono ?_
        rintro e w4 ⟨rfl, m4, rfl⟩
        have f4 : Fr (fun _ => False) w3 (w3.drewN m4) := (Fr.refl _ w3).drewN m4
        have hs4 := hs3.quiet f4
        have hb4 := hb3.trans (below_of_fr f4 (Nat.le_of_lt (lt_of_heap hs3.bld.blk)))
        have ho4 := f4.own ho (fun _ _ => id)
        clear hs3 hb3 ho f4
        go_wp2_with fail
        refine (addAll_any w1.heap.size (w1.heap.size + 1) (w3.drewN m4) _ vf' _ [] [] fs hs4 (by have := HN'.out; simp [allOf]; omega) (by have := HY.out.below hb4; rw [HU.out] at this; exact this)).mono ?_
        rintro e w5 ⟨rfl, hR⟩
        have hb5 := hb4.trans (hR.old hs4)
        have ho5 := hR.apart hs4 ho4 (fun k _ h => by simp [Value.ownBlock] at h)
        obtain ⟨vl5, vf5, P5, L5, hs5, ha5, _⟩ := hR
        have HA5 : Hid (allOf P5 L5 = fs) := ha5
        clear hs4 hb4 ho4 ha5
        go_wp2_with fail
        refine (doc_any w1.heap.size (w1.heap.size + 1) w5 vl5 vf5 P5 L5 hs5 (by have := HN'.out; rw [HA5.out]; omega)).mono ?_
        rintro e w6 ⟨v6, rfl, hD⟩
        have hb6 := hb5.trans (hD.old hs5)
        have ho6 := hD.apart hs5 ho5
        obtain ⟨hq6, hnil6, _, vf6, hs6, _⟩ := hD
        rw [HA5.out] at hq6 hnil6
        clear hs5 hb5 ho5 HA5
        go_wp2_with fail
        refine (docIs_any w6 (w1.heap.size + 1) w1.heap.size v1 (.slice a n c) es (by have := HN.out; omega) ho6 hnil (by have := HZ.out.below hb6; rw [HV.out] at this; exact this)).mono ?_
        rintro e w7 ⟨rfl, m7, rfl⟩
        have f7 : Fr (fun _ => False) w6 (w6.drewN m7) := (Fr.refl _ w6).drewN m7
        have hb7 := hb6.trans (below_of_fr f7 (Nat.le_of_lt (lt_of_heap hs6.bld.blk)))
        go_wp2_with fail
        refine (docIs_any (w6.drewN m7) (w1.heap.size + 1) w1.heap.size v6 (.slice b n' d) fs (by have := HN'.out; omega) (f7.own hq6 (fun _ _ => id)) hnil6 (by have := HY.out.below hb7; rw [HU.out] at this; exact this)).mono ?_
        rintro e w8 ⟨rfl, m8, rfl⟩
        go_wp2_with fail
        have f8 : Fr (fun _ => False) w6 (w6.drewN (m7 + m8)) := (Fr.refl _ w6).drewN _
        refine (len_sta w1.heap.size (w1.heap.size + 1) (w6.drewN (m7 + m8)) _ vf6 [] [] 0 (hs6.quiet f8) rfl (by omega)).mono ?_
        rintro e w9 ⟨rfl, m9, rfl⟩
        have f9 : Fr (fun _ => False) w6 (w6.drewN (m7 + m8 + m9)) := (Fr.refl _ w6).drewN _
        have hb9 := hb6.trans (below_of_fr f9 (Nat.le_of_lt (lt_of_heap hs6.bld.blk)))
        go_wp2
        go_ret
        exact ⟨rfl, hb9⟩
end Go.Proofs.Qxb6621698a
