/-
  zzAddAll, walked: entries read out of an argument, added one by one.
-/
import Derived.Test.Qxb6621698aDocAddF
import Derived.Deep.LoopGhost
import Derived.Deep.RegionHeld3
namespace Go.Proofs.Qxb6621698a
open Go.RowKit

/-- Entry i of a list. -/
def ent (es : List Ent) (i : Nat) : Ent := es.getD i (ByteArray.empty, ByteArray.empty, 0)

/-- THE ARGUMENT: a slice of entries that lies in old memory (below block B). -/
def ZRow (w : World) (B : Nat) (v : Value) (es : List Ent) : Prop :=
  (es = [] ∧ ∃ a c, v = .slice a 0 c) ∨ ∃ b off c, v = .slice (some ⟨b, off, none⟩) es.length c ∧ b < B ∧ ∀ i, i < es.length →
    w.cell? ⟨b, off + i * 3, none⟩ = some (.string (ent es i).1) ∧ w.cell? ⟨b, off + i * 3 + 1, none⟩ = some (.string (ent es i).2.1) ∧ w.cell? ⟨b, off + i * 3 + 2, none⟩ = some (.int .i64 (ent es i).2.2)

theorem ZRow.below {w w' : World} {B : Nat} {v : Value} {es : List Ent} (h : ZRow w B v es) (hb : Below B w w') : ZRow w' B v es := by
  rcases h with h | ⟨b, off, c, hv, hB, hc⟩
  · exact .inl h
  · refine .inr ⟨b, off, c, hv, hB, fun i hi => ?_⟩
    obtain ⟨h0, h1, h2⟩ := hc i hi
    exact ⟨(hb.cell (p := ⟨b, _, none⟩) hB).trans h0, (hb.cell (p := ⟨b, _, none⟩) hB).trans h1, (hb.cell (p := ⟨b, _, none⟩) hB).trans h2⟩

/-- What several Adds leave. -/
def AllR (w : World) (base bb : Nat) (vl vf : Value) (P : List (Value × List Ent)) (L : List Ent) (xs : List Ent) (w' : World) : Prop :=
  ∃ (vl' vf' : Value) (P' : List (Value × List Ent)) (L' : List Ent), Sta w' base bb vl' vf' P' L' ∧ allOf P' L' = allOf P L ++ xs ∧ Fr (Bad bb vl vf) w w' ∧ Near w vl vl' ∧ Near w vf vf'

theorem Near.trans {w w1 : World} {v v1 v2 : Value} (h : Near w v v1) (k : Near w1 v1 v2) (hs : w.heap.size ≤ w1.heap.size) : Near w v v2 := fun i hi => by
  rcases k i hi with h1 | h1
  · exact h i h1
  · right; omega

theorem Bad.back {w : World} {bb : Nat} {vl vf vl' vf' : Value} (hl : Near w vl vl') (hf : Near w vf vf') : ∀ i, i < w.heap.size → Bad bb vl' vf' i → Bad bb vl vf i := fun i hi h => by
  rcases h with h | h | h
  · exact .inl h
  · rcases hl i h with h1 | h1
    · exact .inr (.inl h1)
    · omega
  · rcases hf i h with h1 | h1
    · exact .inr (.inr h1)
    · omega

theorem AllR.nil {w : World} {base bb : Nat} {vl vf : Value} {P : List (Value × List Ent)} {L : List Ent} (h : Sta w base bb vl vf P L) : AllR w base bb vl vf P L [] w :=
  ⟨vl, vf, P, L, h, by simp, Fr.refl _ _, fun _ h => .inl h, fun _ h => .inl h⟩

theorem AllR.step {w w1 w2 : World} {base bb : Nat} {vl vf vl' vf' : Value} {P P' : List (Value × List Ent)} {L L' : List Ent} {xs : List Ent} {e : Ent} (ha : allOf P' L' = allOf P L ++ xs) (f : Fr (Bad bb vl vf) w w1) (nl : Near w vl vl') (nf : Near w vf vf')
    (h : AddR w1 base bb vl' vf' P' L' e w2) : AllR w base bb vl vf P L (xs ++ [e]) w2 := by
  obtain ⟨vl2, vf2, P2, L2, s2, a2, f2, n2, m2⟩ := h
  exact ⟨vl2, vf2, P2, L2, s2, by rw [a2, ha, List.append_assoc], f.trans' f2 (Bad.back nl nf), nl.trans n2 f.size, nf.trans m2 f.size⟩

theorem AllR.quiet {w w1 w2 : World} {base bb : Nat} {vl vf : Value} {P : List (Value × List Ent)} {L : List Ent} {xs : List Ent} (h : AllR w base bb vl vf P L xs w1) (f : Fr (fun _ => False) w1 w2) : AllR w base bb vl vf P L xs w2 := by
  obtain ⟨vl2, vf2, P2, L2, s2, a2, f2, n2, m2⟩ := h
  exact ⟨vl2, vf2, P2, L2, s2.quiet f, a2, f2.trans' f (fun _ _ h => h.elim), n2, m2⟩

/-- Of old memory nothing turns. -/
theorem AllR.old {w w1 : World} {base bb : Nat} {vl vf : Value} {P : List (Value × List Ent)} {L : List Ent} {xs : List Ent} (h : AllR w base bb vl vf P L xs w1) (hs : Sta w base bb vl vf P L) : Below bb w w1 := by
  obtain ⟨vl2, vf2, P2, L2, s2, a2, f2, n2, m2⟩ := h
  refine f2.below (Nat.le_of_lt (lt_of_heap hs.bld.blk)) (fun k hk hb => ?_)
  have hlow := hs.bld.low
  rcases hb with hb | hb | hb
  · omega
  · have := hs.bld.last.lt k hb; omega
  · have := hs.bld.full.lt k hb; omega

theorem len_sta (bb base : Nat) (w : World) (vl vf : Value) (P : List (Value × List Ent)) (L : List Ent) (q : Nat) (hs : Sta w base bb vl vf P L) (hq : (allOf P L).length = q) (hn : q ≤ 1000000000) :
    Calls Try.prog 20 #[.pointer (some ⟨bb, 0, none⟩)] w fun e w' => e = .returned (.int .i64 (q : Int)) ∧ ∃ m, w' = w.drewN m := by
  have hl : ∃ a c, vl = .slice a L.length c := by
    rcases own_shape hs.bld.last with ⟨rfl, hL, _⟩ | ⟨g, c, rfl, _⟩
    · exact ⟨none, 0, by rw [hL]⟩
    · exact ⟨_, _, rfl⟩
  obtain ⟨a, c, rfl⟩ := hl
  have h0 : w.cell? ⟨bb, 0, none⟩ = some (.slice a L.length c) := by simp [cell_of_blk hs.bld.blk]
  have h2 : w.cell? ⟨bb, 2, none⟩ = some (.int .i64 ((P.flatMap (·.2)).length : Nat)) := by simp [cell_of_blk hs.bld.blk]
  rw [allOf, List.length_append] at hq
  have := len_any bb w a L.length c (P.flatMap (·.2)).length h0 h2 (by omega)
  refine this.mono ?_
  rintro e w' ⟨rfl, h⟩
  refine ⟨?_, h⟩
  rw [← hq]
  simp

theorem cells_keep {wr w2 : World} {base bb b o : Nat} {vl vf : Value} {P : List (Value × List Ent)} {L : List Ent} {e : Ent} {x0 x1 x2 : Value} {m : Nat} (h : AddR (wr.drewN m) base bb vl vf P L e w2) (hs : Sta wr base bb vl vf P L) (hb : b < bb)
    (c0 : wr.cell? ⟨b, o, none⟩ = some x0) (c1 : wr.cell? ⟨b, o + 1, none⟩ = some x1) (c2 : wr.cell? ⟨b, o + 2, none⟩ = some x2) : w2.cell? ⟨b, o, none⟩ = some x0 ∧ w2.cell? ⟨b, o + 1, none⟩ = some x1 ∧ w2.cell? ⟨b, o + 2, none⟩ = some x2 := by
  have hb2 : Below bb (wr.drewN m) w2 := AllR.old (xs := [e]) h (hs.quiet ((Fr.refl _ _).drewN _))
  exact ⟨(hb2.cell (p := ⟨b, _, none⟩) hb).trans c0, (hb2.cell (p := ⟨b, _, none⟩) hb).trans c1, (hb2.cell (p := ⟨b, _, none⟩) hb).trans c2⟩

theorem take_all (es : List Ent) (k : Nat) (h : Hid (k = es.length)) : es.take k = es := by rw [h.out]; simp

theorem take_ent (es : List Ent) (k : Nat) (h : k < es.length) : es.take (k + 1) = es.take k ++ [ent es k] := by
  rw [List.take_succ_eq_append_getElem h]
  simp [ent, h]

set_option maxRecDepth 100000 in
set_option maxHeartbeats 1600000 in
theorem addAll_some (bb base : Nat) (w : World) (vl vf : Value) (P : List (Value × List Ent)) (L : List Ent) (es : List Ent) (b off c n : Nat) (hs : Sta w base bb vl vf P L) (hq : (allOf P L).length + es.length ≤ 1000000)
    (hbb : b < bb) (hn : n = es.length) (hc : ∀ i, i < n →
    w.cell? ⟨b, off + i * 3, none⟩ = some (.string (ent es i).1) ∧ w.cell? ⟨b, off + i * 3 + 1, none⟩ = some (.string (ent es i).2.1) ∧ w.cell? ⟨b, off + i * 3 + 2, none⟩ = some (.int .i64 (ent es i).2.2)) :
    Calls Try.prog 17 #[.pointer (some ⟨bb, 0, none⟩), .slice (some ⟨b, off, none⟩) n c] w fun e w' => e = .returned (.bool true) ∧ AllR w base bb vl vf P L es w' := by
  obtain ⟨q, hq'⟩ : ∃ q, (allOf P L).length = q := ⟨_, rfl⟩
  have HQ : Hid ((allOf P L).length = q) := hq'
  have HE : Hid (n = es.length) := hn
  have hqn : q + n ≤ 1000000 := by omega
  have HC := hide hc
  clear hc hn hq' hq
  go_enter Try.func17, Try.ntmps17
  go_wp2_with (go_at_call 20; refine (len_sta bb base w vl vf P L q hs HQ.out (by omega)).mono ?_; rintro e w1 ⟨rfl, mq, rfl⟩)
  go_loopw [6] (fun i wr => ∃ k : Nat, k ≤ n ∧ i = .int .i64 k ∧ AllR w base bb vl vf P L (es.take k) wr) (fun i _ => n - (intOf i).toNat)
  case atStart => exact ⟨0, Nat.zero_le _, rfl, (AllR.nil hs).quiet ((Fr.refl _ _).drewN _)⟩
  case round =>
    obtain ⟨k, hk, rfl, hR⟩ := hrel
    by_cases hlt : k < n
    · have hold := hR.old hs
      have hHE := HE.out
      have c0 : wr.cell? ⟨b, off + k * 3, none⟩ = some (.string (ent es k).1) := (hold.cell (p := ⟨b, _, none⟩) hbb).trans (unhide HC k hlt).1
      have c1 : wr.cell? ⟨b, off + k * 3 + 1, none⟩ = some (.string (ent es k).2.1) := (hold.cell (p := ⟨b, _, none⟩) hbb).trans (unhide HC k hlt).2.1
      have c2 : wr.cell? ⟨b, off + k * 3 + 2, none⟩ = some (.int .i64 (ent es k).2.2) := (hold.cell (p := ⟨b, _, none⟩) hbb).trans (unhide HC k hlt).2.2
      obtain ⟨e, he⟩ : ∃ e, ent es k = e := ⟨_, rfl⟩
      rw [he] at c0 c1 c2
      have HT : Hid (es.take (k + 1) = es.take k ++ [e]) := by rw [← he]; exact take_ent es k (by omega)
      have HL : Hid ((es.take k).length = k) := by show _ = _; simp; omega
      have k0 : (0 : Int) ≤ (k : Int) := by omega
      have k1 : (k : Int) < (n : Int) := by omega
      clear he hHE hold hk
      obtain ⟨vl', vf', P', L', hs', ha, f1, nl, nf⟩ := hR
      have HA : Hid (allOf P' L' = allOf P L ++ es.take k) := ha
      have HA2 : (allOf P' L').length ≤ 1000000 := by have := HQ.out; have := HL.out; rw [ha, List.length_append]; omega
      clear ha
      go_wp2
      go_region_held3 (fun w' => w'.cell? ⟨b, off + k * 3, none⟩ = some (.string e.1) ∧ w'.cell? ⟨b, off + k * 3 + 1, none⟩ = some (.string e.2.1) ∧ w'.cell? ⟨b, off + k * 3 + 2, none⟩ = some (.int .i64 e.2.2)) (first | go_keep | exact cells_keep hadd hs' hbb c0 c1 c2) ((go_at_call 24; refine (add_any bb base (wr.drewN 1) vl' vf' P' L' e (hs'.quiet ((Fr.refl _ _).drewN _)) HA2).mono ?_; rintro r w2 ⟨rfl, hadd⟩))
      have hR2 : AllR w base bb vl vf P L (es.take (k + 1)) w2 := by rw [HT.out]; exact AllR.step HA.out (f1.drewN _) nl nf hadd
      clear hadd hs' f1 nl nf HA HA2 c0 c1 c2 vl' vf' P' L'
      obtain ⟨vl', vf', P', L', hs', ha, f1, nl, nf⟩ := hR2
      have HA : Hid (allOf P' L' = allOf P L ++ es.take (k + 1)) := ha
      have HA2 : Hid ((allOf P' L').length = q + k + 1) := by show _ = _; have := HQ.out; have := HL.out; rw [ha, HT.out, List.length_append, List.length_append, List.length_singleton]; omega
      clear ha
      go_wp2_with (go_at_call 20; refine (len_sta bb base w2 vl' vf' P' L' (q + k + 1) hs' HA2.out (by omega)).mono ?_; rintro e' w3 ⟨rfl, mq', rfl⟩)
      exact ⟨⟨k + 1, by omega, by go_num, AllR.quiet ⟨vl', vf', P', L', hs', HA.out, f1, nl, nf⟩ ((Fr.refl _ _).drewN _)⟩, by simp [intOf]; omega⟩
    · have hk2 : k = n := by omega
      subst hk2
      rw [take_all es k HE] at hR
      go_wp2
      go_ret
      exact ⟨rfl, hR⟩

set_option maxHeartbeats 400000 in
theorem addAll_none (bb base : Nat) (w : World) (vl vf : Value) (P : List (Value × List Ent)) (L : List Ent) (a : Option Addr) (c : Nat) (hs : Sta w base bb vl vf P L) (hq : (allOf P L).length ≤ 1000000) :
    Calls Try.prog 17 #[.pointer (some ⟨bb, 0, none⟩), .slice a 0 c] w fun e w' => e = .returned (.bool true) ∧ AllR w base bb vl vf P L [] w' := by
  obtain ⟨q, hq'⟩ : ∃ q, (allOf P L).length = q := ⟨_, rfl⟩
  have HQ : Hid ((allOf P L).length = q) := hq'
  have hqn : q ≤ 1000000 := by omega
  clear hq' hq
  go_enter Try.func17, Try.ntmps17
  go_wp2_with (go_at_call 20; refine (len_sta bb base w vl vf P L q hs HQ.out (by omega)).mono ?_; rintro e w1 ⟨rfl, mq, rfl⟩)
  go_loopw [6] (fun i wr => i = .int .i64 0 ∧ AllR w base bb vl vf P L [] wr) (fun _ _ => 0)
  case atStart => exact ⟨rfl, (AllR.nil hs).quiet ((Fr.refl _ _).drewN _)⟩
  case round =>
    obtain ⟨rfl, hR⟩ := hrel
    go_wp2
    go_ret
    exact ⟨rfl, hR⟩

/-- zzAddAll, whatever the list. -/
theorem addAll_any (bb base : Nat) (w : World) (vl vf v : Value) (P : List (Value × List Ent)) (L : List Ent) (es : List Ent) (hs : Sta w base bb vl vf P L) (hq : (allOf P L).length + es.length ≤ 1000000) (hz : ZRow w bb v es) :
    Calls Try.prog 17 #[.pointer (some ⟨bb, 0, none⟩), v] w fun e w' => e = .returned (.bool true) ∧ AllR w base bb vl vf P L es w' := by
  rcases hz with ⟨rfl, a, c, rfl⟩ | ⟨b, off, c, rfl, hb, hc⟩
  · exact addAll_none bb base w vl vf P L a c hs (by simpa using hq)
  · exact addAll_some bb base w vl vf P L es b off c es.length hs hq hb rfl hc
end Go.Proofs.Qxb6621698a
