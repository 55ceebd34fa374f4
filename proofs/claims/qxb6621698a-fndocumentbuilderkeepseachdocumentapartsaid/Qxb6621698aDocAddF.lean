/-
  (*DocumentBuilder).Add where the part being filled is full.
-/
import Derived.Test.Qxb6621698aDocAdd
import Derived.Deep.DeepCutAuto
namespace Go.Proofs.Qxb6621698a
open Go.RowKit

theorem heap_two (w : World) (a b : Obj) (n : Nat) : (((w.alloc a).drewN n).alloc b).heap[w.heap.size + 1]? = some b ∧ (((w.alloc a).drewN n).alloc b).heap[w.heap.size]? = some a := by
  show ((w.heap.push a).push b)[w.heap.size + 1]? = some b ∧ ((w.heap.push a).push b)[w.heap.size]? = some a
  refine ⟨?_, ?_⟩
  · rw [Array.getElem?_push, if_pos (by simp)]
  · rw [Array.getElem?_push, if_neg (by simp), Array.getElem?_push, if_pos rfl]

theorem held_eq {q n : Nat} {P : List (Value × List Ent)} {L : List Ent} {v : Value} (hq : Hid (q = (P.flatMap (·.2)).length)) (hn : Hid (n = L.length)) : q + n = ((P ++ [(v, L)]).flatMap (·.2)).length := by
  have := hq.out; have := hn.out
  rw [List.flatMap_append, List.length_append]
  simp only [List.flatMap_cons, List.flatMap_nil, List.append_nil]
  omega

theorem all_eq (P : List (Value × List Ent)) (L : List Ent) (v : Value) : allOf (P ++ [(v, L)]) [] = allOf P L := by simp [allOf]

theorem box_set {w wc : World} {bb i : Nat} {o : Obj} {x : Value} (h : wc.heap[w.heap.size]? = some o) (lb : bb < w.heap.size) : (wc.setCell ⟨bb, i, none⟩ x).drew.heap[w.heap.size]? = some o :=
  (Below.heap_setCell wc ⟨bb, i, none⟩ x w.heap.size (by simp; omega)).trans h

theorem ne_of_hid {n : Nat} {L : List Ent} (h : Hid (n = L.length)) (h0 : 0 < n) : L ≠ [] := by
  have := h.out
  intro e
  subst e
  simp at this
  omega

theorem full_own {w W0 : World} {base bb : Nat} {vl vf : Value} {P : List (Value × List Ent)} {L : List Ent} {held n : Nat} (hn : Hid (n = P.length)) (h : Bld w base bb vl vf P L held) (f : Fr (fun _ => False) w W0) : W0.ownsRow base 37 1 vf n (P.map (·.1)) := by
  rw [hn.out]; exact f.own h.full (fun _ _ => id)

set_option maxRecDepth 100000 in
set_option maxHeartbeats 1600000 in
theorem add_full (bb base : Nat) (w : World) (g n : Nat) (vf : Value) (P : List (Value × List Ent)) (L : List Ent) (e : Ent)
   (hs : Sta w base bb (.slice (some ⟨g, 0, none⟩) n n) vf P L) (hnL : n = L.length) (hn0 : 0 < n) (hn : (allOf P L).length ≤ 1000000) :
    Calls Try.prog 24 #[.pointer (some ⟨bb, 0, none⟩), .agg #[.string e.1, .string e.2.1, .int .i64 e.2.2]] w fun r w' => r = .returned (.tuple #[]) ∧ AddR w base bb (.slice (some ⟨g, 0, none⟩) n n) vf P L e w' := by
  obtain ⟨i0, hi0, hz0, hz1, hz2⟩ := info_parts info56
  obtain ⟨j0, hj0, hy0, hy1, hy2⟩ := info_parts info37
  have h0 : w.cell? ⟨bb, 0, none⟩ = some (.slice (some ⟨g, 0, none⟩) n n) := by simp [cell_of_blk hs.bld.blk]
  have h1 : w.cell? ⟨bb, 1, none⟩ = some vf := by simp [cell_of_blk hs.bld.blk]
  have lb : bb < w.heap.size := lt_of_heap hs.bld.blk
  have hlow := hs.bld.hi
  have hPn : P.length ≤ 1000000 := by have := hs.bld.parts_le; rw [allOf, List.length_append] at hn; omega
  have hnn : n ≤ 1000000 := by simp [allOf] at hn; omega
  have HP : Hid (n = L.length) := hnL
  obtain ⟨m, hm⟩ : ∃ m, m = P.length := ⟨_, rfl⟩
  have HM : Hid (m = P.length) := hm
  have hmn : m ≤ 1000000 := by omega
  clear hnL hm
  obtain ⟨k, v, l⟩ := e
  go_enter Try.func24, Try.ntmps24
  go_wp2
  go_quiet (fail)
  go_wp2
  go_cut [] (fun wx => FullR w base bb (.slice (some ⟨g, 0, none⟩) n n) vf P L (k, v, l) (P.flatMap (·.2)).length wx)
  case first =>
    go_region_law ((refine step_append_lies _ (by rfl) (.tmp 25) (.tmp 30) 38 (by rfl) base 37 j0 _ 1 24 Try.underlying38 hj0 hy0 hy1 hy2 rfl (by omega) vf m (P.map (·.1)) (by simp [Act.eval]) (by exact full_own HM hs.bld ((((Fr.refl _ _).alloc _).drewN _).alloc _)) ⟨w.heap.size + 1, 0, none⟩ 1 1 [.slice (some ⟨g, 0, none⟩) n n] (by simp [Act.eval]) (by rfl) (World.news_of_block (cs := #[.slice (some ⟨g, 0, none⟩) n n]) (t := 37) (fr := (0, 0)) (heap_two w _ _ _).1) (by simp [Value.oneCell']) (by omega) (by unfold maxLen; omega) (by omega) (by simp; omega) (w.heap.size + 2) (by simp) ?_; intro gg cap w1 hown1 hgrow hat hlt; obtain ⟨hR, hc1, hf1⟩ := full_end (k, v, l) hs.bld (ne_of_hid HP hn0) ((((Fr.refl _ _).alloc _).drewN _).alloc _) (heap_two w _ _ _).2 HM.out hown1 hgrow hat (by simp)))
    all_goals go_wp2
    all_goals go_meet
    all_goals exact hR
  case rest =>
    clear h0 h1 hlow hPn hmn HM hj0 hy0 hy1 hy2
    obtain ⟨vf', hB, hbox, fw, nf⟩ := hcut
    have h0 : wc.cell? ⟨bb, 0, none⟩ = some (.slice (some ⟨g, 0, none⟩) n n) := by simp [cell_of_blk hB.blk]
    have h2 : wc.cell? ⟨bb, 2, none⟩ = some (.int .i64 (P.flatMap (·.2)).length) := by simp [cell_of_blk hB.blk]
    have h3 : wc.frozen? ⟨bb, 2, none⟩ = false := free_of_blk hB.blk 2
    have h4 : wc.frozen? ⟨bb, 0, none⟩ = false := free_of_blk hB.blk 0
    obtain ⟨q, hq⟩ : ∃ q, q = (P.flatMap (·.2)).length := ⟨_, rfl⟩
    have hqb : q ≤ 1000000 := by rw [allOf, List.length_append] at hn; omega
    rw [← hq] at h2
    have HQ : Hid (q = (P.flatMap (·.2)).length) := hq
    clear hq
    go_wp2
    go_region
    go_upto_region 5 with fail
    go_cut [] (fun wx => MidR w base bb (.slice (some ⟨g, 0, none⟩) n n) vf P L (k, v, l) wx)
    case first =>
      have hlow := hB.hi
      by_cases c1 : 8192 < 2 * n
      · go_wp2_with (at_make; refine wpList_make_own _ rfl (.const (.int .i64 0)) (.tmp 54) 37 rfl base 56 i0 _ 3 Try.underlying37 hi0 hz0 hz1 .i64 .i64 _ 8192 rfl rfl (by omega) (by omega) (by unfold maxLen; omega) (by simp [World.setCell]; omega) ?_; intro w1 hown hgrow; obtain ⟨hM, hc1, hf1⟩ := mid_make (vl := .slice (some ⟨g, 0, none⟩) n n) (vf := vf) (P := P) (L := L) (k, v, l) (H := wc.heap.size) (by simp [World.setCell]) ((held_step hB (q + n) _ (by omega)).quiet ((Fr.refl _ _).drew)) (held_eq HQ HP) (all_eq P L _) (by exact (box_set hbox lb)) lb (by exact Fr.drew (fw.setCell _ (fun _ => .inl rfl) _)) nf hown hgrow)
        go_meet
        exact hM
      · by_cases c2 : 8 < 2 * n
        · go_wp2_with (at_make; refine wpList_make_own _ rfl (.const (.int .i64 0)) (.tmp 54) 37 rfl base 56 i0 _ 3 Try.underlying37 hi0 hz0 hz1 .i64 .i64 _ (2 * n) rfl rfl (by omega) (by rw [hz2]; omega) (by unfold maxLen; omega) (by simp [World.setCell]; omega) ?_; intro w1 hown hgrow; obtain ⟨hM, hc1, hf1⟩ := mid_make (vl := .slice (some ⟨g, 0, none⟩) n n) (vf := vf) (P := P) (L := L) (k, v, l) (H := wc.heap.size) (by simp [World.setCell]) ((held_step hB (q + n) _ (by omega)).quiet ((Fr.refl _ _).drew)) (held_eq HQ HP) (all_eq P L _) (by exact (box_set hbox lb)) lb (by exact Fr.drew (fw.setCell _ (fun _ => .inl rfl) _)) nf hown hgrow)
          go_meet
          exact hM
        · go_wp2_with (at_make; refine wpList_make_own _ rfl (.const (.int .i64 0)) (.tmp 54) 37 rfl base 56 i0 _ 3 Try.underlying37 hi0 hz0 hz1 .i64 .i64 _ 8 rfl rfl (by omega) (by omega) (by unfold maxLen; omega) (by simp [World.setCell]; omega) ?_; intro w1 hown hgrow; obtain ⟨hM, hc1, hf1⟩ := mid_make (vl := .slice (some ⟨g, 0, none⟩) n n) (vf := vf) (P := P) (L := L) (k, v, l) (H := wc.heap.size) (by simp [World.setCell]) ((held_step hB (q + n) _ (by omega)).quiet ((Fr.refl _ _).drew)) (held_eq HQ HP) (all_eq P L _) (by exact (box_set hbox lb)) lb (by exact Fr.drew (fw.setCell _ (fun _ => .inl rfl) _)) nf hown hgrow)
          go_meet
          exact hM
    case rest =>
      clear hB hbox fw nf h0 h2 h3 h4 hqb HQ hs HP
      clear lb hnn hn0
      obtain ⟨g', c', n', vf', P', L', held, hn', hB, ap, hh, ha, hbox, fw, nl, nf⟩ := hcut
      have hnb : n' ≤ 1000000 := by have := congrArg List.length ha; simp [allOf] at this hn; omega
      have lb : bb < wc.heap.size := lt_of_heap hB.blk
      have lx : w.heap.size < wc.heap.size := lt_of_heap hbox
      have h0 : wc.cell? ⟨bb, 0, none⟩ = some (.slice (some ⟨g', 0, none⟩) n' c') := by simp [cell_of_blk hB.blk]
      have x0 : wc.cell? ⟨w.heap.size, 0, none⟩ = some (.string k) := by simp [cell_of_blk hbox]
      have x1 : wc.cell? ⟨w.heap.size, 1, none⟩ = some (.string v) := by simp [cell_of_blk hbox]
      have x2 : wc.cell? ⟨w.heap.size, 2, none⟩ = some (.int .i64 l) := by simp [cell_of_blk hbox]
      have hlow := hB.hi
      have HN : Hid (n' = L'.length) := hn'
      have HA : Hid (allOf P' L' = _) := ha
      clear hn' hn ha
      go_wp2
      go_region_law ((refine step_append_lies _ (by rfl) (.tmp 62) (.tmp 64) 37 (by rfl) base 56 i0 _ 3 40 Try.underlying37 hi0 hz0 hz1 hz2 rfl (by omega) (.slice (some ⟨g', 0, none⟩) n' c') n' (cellsOf L') (by simp [Act.eval]) (by exact last_own HN hB ((Fr.refl _ _).alloc _).drew) ⟨wc.heap.size, 0, none⟩ 1 1 [.string k, .string v, .int .i64 l] (by simp [Act.eval]) (by rfl) (World.news_of_block (cs := #[.string k, .string v, .int .i64 l]) (t := 56) (fr := (0, 0)) (heap_alloc_new wc _)) (by simp [Value.oneCell']) (by omega) (by unfold maxLen; omega) (by omega) (by simp; omega) (wc.heap.size + 1) (by simp) ?_; intro gg cap w1 hown1 hgrow hat hlt; obtain ⟨hR, hc1, hf1⟩ := add_end (k, v, l) HN.out hB ap hh HA.out fw nl nf ((Fr.refl _ _).alloc _).drew hown1 hgrow hat (by simp)))
      all_goals go_end0
      all_goals exact ⟨rfl, hR⟩

/-- ADD, WHATEVER THE BUILDER HOLDS. -/
theorem add_any (bb base : Nat) (w : World) (vl vf : Value) (P : List (Value × List Ent)) (L : List Ent) (e : Ent) (hs : Sta w base bb vl vf P L) (hn : (allOf P L).length ≤ 1000000) :
    Calls Try.prog 24 #[.pointer (some ⟨bb, 0, none⟩), .agg #[.string e.1, .string e.2.1, .int .i64 e.2.2]] w fun r w' => r = .returned (.tuple #[]) ∧ AddR w base bb vl vf P L e w' := by
  rcases own_shape hs.bld.last with ⟨rfl, hL, _⟩ | ⟨g, c, rfl, _, _, hc, _⟩
  · obtain rfl : L = [] := List.length_eq_zero_iff.1 hL
    exact add_first bb base w vf P e hs hn
  · have hL : L ≠ [] := fun h => by have := hs.nil h; simp at this
    have h0 : 0 < L.length := List.length_pos_iff.2 hL
    by_cases h : L.length < c
    · exact add_room bb base w g L.length c vf P L e hs rfl hn h
    · obtain rfl : c = L.length := by omega
      exact add_full bb base w g L.length vf P L e hs rfl h0 hn
end Go.Proofs.Qxb6621698a
