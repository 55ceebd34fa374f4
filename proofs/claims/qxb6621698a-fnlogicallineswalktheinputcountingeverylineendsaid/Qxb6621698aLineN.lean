/-
  logicalLine over a nil slice, walked.
-/
import Derived.Test.Qxb6621698aLineL0
namespace Go.Proofs.Qxb6621698a
open Go.RowKit

theorem nil_end {w w2 : World} {H sb : Nat} {l ln : Int} {k : Nat} (h : LS w H sb none 0 0 ln [] (skipE [] 0) (lnx l (k + incE [] 0)) (.slice none 0 0) (.slice none 0 0) w2) (hl : lnx l k = ln) (w' : World) (f : Fr (fun i => i = H) w2 w') :
    LogR [] w sb none 0 0 0 l k (.returned (.agg #[.slice none 0 0, .int .i64 ln, .slice none 0 0])) w' :=
  log_end h hl (fast_runs (D := []) (p := 0) (e := 0) (n := 0) rfl (Nat.le_refl _) (Nat.le_refl _) (fun i _ hi => by omega) rfl) (rowV_nil _ _ _ _ _ rfl) (rowV_nil _ _ _ _ _ rfl) w' f (fun x cc i hx hi => by simp at hx) (fun x cc i hx hi => by simp at hx)

set_option maxRecDepth 100000 in
set_option maxHeartbeats 3200000 in
theorem logicalLine_nil (w : World) (sb : Nat) (l : Int) (k : Nat) (hs : Scan w sb none 0 0 0 (lnx l k)) :
    Calls Try.prog 22 #[.pointer (some ⟨sb, 0, none⟩)] w fun e w' => LogR [] w sb none 0 0 0 l k e w' := by
  have s0 := hs.c0
  have s1 := hs.c1
  have s2 := hs.c2
  have ls : sb < w.heap.size := lt_of_heap hs
  obtain ⟨ln, hln⟩ : ∃ ln, lnx l k = ln := ⟨_, rfl⟩
  rw [hln] at s2 hs
  have HL := hide hln
  obtain ⟨H, hH⟩ : ∃ H, w.heap.size = H := ⟨_, rfl⟩
  have HW := hide (LS.make (D := []) hH hs (fun i hi => by simp at hi))
  have lsH : sb < H := by omega
  clear hs hln
  go_enter Try.func22, Try.ntmps22
  go_wp2
  refine wp_world (LS w H sb none 0 0 ln [] 0 ln (.slice none 0 0) (.slice none 0 0)) HW.out ?_
  clear HW s0 s1 s2 ls hH lsH
  intro wc hW
  have HW := hide hW
  have s0 := hW.scan.c0
  have s1 := hW.scan.c1
  have HR := hide hW.row
  have HS := hide hW.scan
  have hsz := hW.size
  have hlow := hW.low
  clear hW
  go_loop [4] (fun t => t = .int .i64 0) (fun _ => 0)
  case atStart => rfl
  case round =>
    subst hrel
    have hend : isEnd [] 0 = true := rfl
    go_wp2_with (go_at_call 25; refine (lineEndsAt_any wc sb none 0 0 0 ln [] 0 HS.out rfl HR (Nat.le_refl _) (by omega)).mono ?_; rintro r w1 ⟨rfl, h1⟩; rw [h1, hend]; clear h1 w1)
    have v0 : wc.cell? ⟨H + 1, 0, none⟩ = some (.slice none 0 0) := by simp [cell_of_blk HW.out.var]
    have v1 : wc.frozen? ⟨H + 1, 0, none⟩ = false := free_of_blk HW.out.var 0
    have g1 : wc.frozen? ⟨sb, 1, none⟩ = false := free_of_blk HS.out 1
    go_region
    go_wp2_with fail
    have h1 := ((HW.out.setText (.slice none 0 0)).setPos 0 0 rfl).quiet (Fr.refl _ _).drew
    obtain ⟨W1, hW1⟩ : ∃ W, W = ((wc.setCell ⟨H + 1, 0, none⟩ (.slice none 0 0)).setCell ⟨sb, 1, none⟩ (.int .i64 0)).drew := ⟨_, rfl⟩
    rw [← hW1] at h1 ⊢
    clear hW1
    refine (skipLineEnd_any W1 sb none 0 0 0 l k [] (by rw [HL.out]; exact h1.scan) rfl (hide h1.row) (Nat.le_refl _) (by omega)).mono ?_
    rintro r w2 ⟨rfl, hsk⟩
    have h2 := h1.skip hsk
    have y0 : w2.cell? ⟨H + 1, 0, none⟩ = some (.slice none 0 0) := by simp [cell_of_blk h2.var]
    have y1 : w2.cell? ⟨H + 1, 1, none⟩ = some (.int .i64 ln) := by simp [cell_of_blk h2.var]
    have y2 : w2.cell? ⟨H + 1, 2, none⟩ = some (.slice none 0 0) := by simp [cell_of_blk h2.var]
    have z0 : w2.cell? ⟨H, 0, none⟩ = some (.slice none 0 0) := by simp [cell_of_blk h2.res]
    have z1 : w2.cell? ⟨H, 1, none⟩ = some (.int .i64 0) := by simp [cell_of_blk h2.res]
    have z2 : w2.cell? ⟨H, 2, none⟩ = some (.slice none 0 0) := by simp [cell_of_blk h2.res]
    have f0 : w2.frozen? ⟨H, 0, none⟩ = false := free_of_blk h2.res 0
    have f1 : w2.frozen? ⟨H, 1, none⟩ = false := free_of_blk h2.res 1
    have f2 : w2.frozen? ⟨H, 2, none⟩ = false := free_of_blk h2.res 2
    have H2 := hide h2
    clear h1 h2 hsk s0 s1 v0 v1 g1
    go_wp2
    refine bodyPost_ret (v := .agg #[.slice none 0 0, .int .i64 ln, .slice none 0 0]) (by simp [results, Try.results22, go_sem, z0, z1, z2]) rfl ?_
    exact nil_end H2.out HL.out _ (Fr.three H _ _ _)
end Go.Proofs.Qxb6621698a
