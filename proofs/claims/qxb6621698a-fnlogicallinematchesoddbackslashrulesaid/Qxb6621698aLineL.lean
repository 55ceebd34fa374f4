/-
  logicalLine, walked.
-/
import Derived.Test.Qxb6621698aLineL0
namespace Go.Proofs.Qxb6621698a
open Go.RowKit

set_option maxRecDepth 100000 in
set_option maxHeartbeats 3200000 in
theorem logicalLine_at (w : World) (sb b off n c p : Nat) (l : Int) (k : Nat) (D : List Int) (hs : Scan w sb (some ⟨b, off, none⟩) n c p (lnx l k)) (hn : n = D.length) (hr : Hid (Row .u8 w sb (some ⟨b, off, none⟩) D)) (hp : p ≤ n) (hnc : n ≤ c) (hN : n ≤ 2000000) :
    Calls Try.prog 22 #[.pointer (some ⟨sb, 0, none⟩)] w fun e w' => LogR D w sb (some ⟨b, off, none⟩) n c p l k e w' := by
  have HN := hide hn
  have s0 := hs.c0
  have s1 := hs.c1
  have s2 := hs.c2
  have ls : sb < w.heap.size := lt_of_heap hs
  obtain ⟨i5, hi5, hz50, hz51, hz52⟩ := info_parts info5
  obtain ⟨i3, hi3, hz30, hz31, hz32⟩ := info_parts info3
  obtain ⟨ln, hln⟩ : ∃ ln, lnx l k = ln := ⟨_, rfl⟩
  rw [hln] at s2 hs
  have HL := hide hln
  obtain ⟨H, hH⟩ : ∃ H, w.heap.size = H := ⟨_, rfl⟩
  have HW := hide (LS.make hH hs hr.out)
  have lsH : sb < H := by omega
  clear hs hn hln hr
  go_enter Try.func22, Try.ntmps22
  go_wp2
  refine wp_world (LS w H sb (some ⟨b, off, none⟩) n c ln D p ln (.slice none 0 0) (.slice none 0 0)) HW.out ?_
  clear HW s0 s1 s2 ls hH lsH
  intro wc hW
  have HW := hide hW
  have s0 := hW.scan.c0
  have s1 := hW.scan.c1
  have HR := hide hW.row
  have HS := hide hW.scan
  have hsz := hW.size
  have hlow := hW.low
  clear hW
  go_loop [4] (fun t => ∃ e : Nat, p ≤ e ∧ e ≤ n ∧ t = .int .i64 e ∧ ∀ i, p ≤ i → i < e → isEnd D i = false ∧ bt D i ≠ 92) (fun t => n - (intOf t).toNat)
  case atStart => exact ⟨p, Nat.le_refl _, hp, rfl, fun i h1 h2 => by omega⟩
  case round =>
    obtain ⟨e, he1, he2, rfl, hno⟩ := hrel
    have HNO := hide hno
    clear hno
    cases hend : isEnd D e
    · have hlt : e < n := by have := isEnd_lt hend (by have := HN.out; omega); have := HN.out; omega
      obtain ⟨b', off', ha, hB, hc⟩ := HR.out e (by have := HN.out; omega)
      simp only [Option.some.injEq, Addr.mk.injEq, and_true] at ha
      obtain ⟨rfl, rfl⟩ := ha
      have e0 : (0 : Int) ≤ (e : Int) := by omega
      have e1 : (e : Int) < (n : Int) := by omega
      obtain ⟨x, hx⟩ : ∃ x, bt D e = x := ⟨_, rfl⟩
      rw [hx] at hc
      have HX := hide hx
      clear hx
      cases hb : x == 92
      · have hb' : (x != 92) = true := by simp [bne, hb]
        go_wp2_with (go_at_call 25; refine (lineEndsAt_any wc sb _ n c p ln D e HS.out HN.out HR (by omega) hN).mono ?_; rintro r w1 ⟨rfl, h1⟩; rw [h1, hend]; clear h1 w1)
        exact ⟨⟨e + 1, by omega, by omega, by go_num, fun i h1 h2 => by
          by_cases h : i < e
          · exact HNO.out i h1 h
          · obtain rfl : i = e := by omega
            exact ⟨hend, by rw [HX.out]; simpa using hb⟩⟩, by simp [intOf]; omega⟩
      · have hb' : (x != 92) = false := by simp [bne, hb]
        go_wp2_with (go_at_call 25; refine (lineEndsAt_any wc sb _ n c p ln D e HS.out HN.out HR (by omega) hN).mono ?_; rintro r w1 ⟨rfl, h1⟩; rw [h1, hend]; clear h1 w1)
        clear hb hb' e0 e1 HX hc hB hlt s0 s1
        go_loopg [] (n - p) (fun g wr => SlowR D w H sb (some ⟨b, off, none⟩) n c p l k ln g wr)
        case atStart => exact ⟨p, [], [], 0, _, _, hp, rfl, fun r h => h, by rw [Nat.add_zero, HL.out]; exact HW.out, World.ownsRow_nil _ _ _ _, World.ownsRow_nil _ _ _ _, by simp, by simp⟩
        case round =>
          clear HW HR HS hsz HNO hend he1 he2
          obtain ⟨q, T, J, cc, vt, vj, hq, hg, hruns, hL, ot, oj, hT, hJ⟩ := hrel
          have HG := hide hg
          have HRU := hide hruns
          clear hg hruns
          have hlow := hL.low
          have hsz := hL.size
          have s0 := hL.scan.c0
          have s1 := hL.scan.c1
          have g1 : wr.frozen? ⟨sb, 1, none⟩ = false := free_of_blk hL.scan 1
          have y0 : wr.cell? ⟨H + 1, 0, none⟩ = some vt := by simp [cell_of_blk hL.var]
          have y2 : wr.cell? ⟨H + 1, 2, none⟩ = some vj := by simp [cell_of_blk hL.var]
          have HLS := hide hL
          have OT := hide ot
          have OJ := hide oj
          clear hL ot oj
          cases hend : isEnd D q
          · have hlt : q < n := by have := isEnd_lt hend (by have := HN.out; omega); have := HN.out; omega
            obtain ⟨b', off', ha, hB, hc⟩ := HLS.out.row q (by have := HN.out; omega)
            simp only [Option.some.injEq, Addr.mk.injEq, and_true] at ha
            obtain ⟨rfl, rfl⟩ := ha
            have q0 : (0 : Int) ≤ (q : Int) := by omega
            have q1 : (q : Int) < (n : Int) := by omega
            obtain ⟨x, hx⟩ : ∃ x, bt D q = x := ⟨_, rfl⟩
            rw [hx] at hc
            have HX := hide hx
            clear hx
            obtain ⟨N, hNT⟩ : ∃ N, T.length = N := ⟨_, rfl⟩
            obtain ⟨M, hMJ⟩ : ∃ M, J.length = M := ⟨_, rfl⟩
            rw [hNT] at hT
            rw [hMJ] at hJ
            have HNT := hide hNT
            have HMJ := hide hMJ
            clear hNT hMJ
            by_cases hb : x = 92
            · subst hb
              go_wp2_with fail
              refine (atLineEnd_any wr sb _ n c q _ D HLS.out.scan HN.out (hide HLS.out.row) hq hN).mono ?_
              rintro r w1 ⟨rfl, h1⟩
              rw [h1, hend]
              clear h1 w1
              go_wp2_with fail
              go_quiet (fail)
              go_wp2_with fail
              have h1 := (HLS.out.quiet ((Fr.refl _ _).drewN nq)).setPos (q + 1) ((q : Int) + 1) (by omega)
              have f1 : Fr (fun i => i = sb) wr ((wr.drewN nq).setCell ⟨sb, 1, none⟩ (.int .i64 ((q : Int) + 1))) := Fr.setCell (bad := fun k => k = sb) ((Fr.refl _ _).drewN _) _ (fun _ => rfl) _
              have HB := hide (BackR.make h1 f1 HRU OT OJ hlow)
              refine (atLineEnd_any _ sb _ n c (q + 1) _ D h1.scan HN.out (hide h1.row) hlt hN).mono ?_
              rintro r w1 ⟨rfl, h2⟩
              rw [h2]
              clear h2 w1 h1 f1 s0 s1 g1 y0 y2 OT OJ HLS HRU hsz hc
              cases hend2 : isEnd D (q + 1)
              · go_wp2_with fail
                refine wp_world (BackR D w H sb (some ⟨b, off, none⟩) n c p l k ln q T J cc) HB.out ?_
                clear HB
                rintro wx ⟨vt, vj, hL, hruns, ot, oj⟩
                have s0 := hL.scan.c0
                have s1 : wx.cell? ⟨sb, 1, none⟩ = some (.int .i64 ((q : Int) + 1)) := by have := hL.scan.c1; simpa using this
                have g1 : wx.frozen? ⟨sb, 1, none⟩ = false := free_of_blk hL.scan 1
                have y0 : wx.cell? ⟨H + 1, 0, none⟩ = some vt := by simp [cell_of_blk hL.var]
                have hsz := hL.size
                have HLS := hide hL
                have HRU := hide hruns
                have OT := hide ot
                have OJ := hide oj
                clear hL hruns ot oj
                have hlt2 : q + 1 < n := by have h1 := HN.out; have := isEnd_lt hend2 (by omega); omega
                obtain ⟨b', off', ha, hB', hc⟩ := HLS.out.row (q + 1) (by have := HN.out; omega)
                simp only [Option.some.injEq, Addr.mk.injEq, and_true] at ha
                obtain ⟨rfl, rfl⟩ := ha
                have lH : H + 1 < wx.heap.size := by omega
                have q2 : (0 : Int) ≤ (q : Int) + 1 := by omega
                have q3 : (q : Int) + 1 < (n : Int) := by omega
                obtain ⟨y, hy⟩ : ∃ y, bt D (q + 1) = y := ⟨_, rfl⟩
                rw [hy] at hc
                have HY := hide hy
                clear hy
                go_region_law ((refine step_append_lies _ (by rfl) (.tmp 105) (.tmp 117) 22 (by rfl) (H + 2) 5 i5 _ 1 1 Try.underlying22 hi5 hz50 hz51 hz52 rfl (by omega) vt N (T.map (Value.int .u8)) (by simp [Act.eval]) (by exact own_past HNT OT hlow (Fr.mono (((Fr.refl (fun _ => False) _).alloc _).drew) (fun _ _ h => h.elim))) ⟨wx.heap.size, 0, none⟩ 2 2 [.int .u8 92, .int .u8 y] (by simp [Act.eval]) (by rfl) (World.news_of_block (cs := #[.int .u8 92, .int .u8 y]) (t := 5) (fr := (0, 0)) (heap_alloc_new wx _)) (by simp [Value.oneCell']) (by omega) (by unfold maxLen; omega) (by omega) (by simp; omega) (wx.heap.size + 1) (by simp) ?_; intro gg cap w1 hown1 hgrow hat1 hlt1; obtain ⟨hR, hc1, hf1, hc2, hf2⟩ := pair_step HLS HRU OT OJ (by have := HNT.out; omega) (by have := HMJ.out; omega) hlt2 hend HX.out hend2 HY HNT hown1 hgrow))
                all_goals go_wp2
                all_goals
                  go_roundg (n - (q + 2))
                  case measure => have := HG.out; omega
                  case rel => exact hR
              · go_wp2_with fail
                refine wp_world (BackR D w H sb (some ⟨b, off, none⟩) n c p l k ln q T J cc) HB.out ?_
                clear HB
                rintro wx ⟨vt, vj, hL, hruns, ot, oj⟩
                have s0 := hL.scan.c0
                have s1 : wx.cell? ⟨sb, 1, none⟩ = some (.int .i64 ((q : Int) + 1)) := by have := hL.scan.c1; simpa using this
                have g1 : wx.frozen? ⟨sb, 1, none⟩ = false := free_of_blk hL.scan 1
                have y0 : wx.cell? ⟨H + 1, 0, none⟩ = some vt := by simp [cell_of_blk hL.var]
                have hsz := hL.size
                have HLS := hide hL
                have HRU := hide hruns
                have OT := hide ot
                have OJ := hide oj
                clear hL hruns ot oj
                by_cases hl : q + 1 < n
                · have q3 : (q : Int) + 1 < (n : Int) := by omega
                  go_quiet (fail)
                  go_wp2_with fail
                  have h1 := HLS.out.quiet ((Fr.refl _ _).drewN nq)
                  refine (skipLineEnd_any (wx.drewN nq) sb _ n c (q + 1) l (k + cc) D h1.scan HN.out (hide h1.row) (by omega) hN).mono ?_
                  rintro r w2 ⟨rfl, hsk⟩
                  have h2 := h1.skip hsk
                  have hskle := skipE_le D (q + 1) (by have := HN.out; omega)
                  go_wp2_with fail
                  refine (skipBlanks_any w2 sb _ n c (skipE D (q + 1)) _ D h2.scan HN.out (hide h2.row) (by have := HN.out; omega) hN).mono ?_
                  rintro r w3 ⟨rfl, hsk2⟩
                  have HLS2 := hide (h2.skip hsk2)
                  have f3 : Fr (fun i => i = sb) wx w3 := (((Fr.refl _ _).drewN nq : Fr (fun i => i = sb) wx (wx.drewN nq)).trans hsk.1).trans hsk2.1
                  have OT2 := hide (own_past rfl OT hlow f3)
                  have OJ2 := hide (own_past rfl OJ hlow f3)
                  obtain ⟨av, cv, hvt⟩ := vt_shape (unhide OT2) HNT
                  have z0 : w3.cell? ⟨H + 1, 0, none⟩ = some (.slice av N cv) := by have := cell_of_blk HLS2.out.var 0; rw [hvt] at this; simpa using this
                  have z2 : w3.cell? ⟨H + 1, 2, none⟩ = some vj := by simp [cell_of_blk HLS2.out.var]
                  have hsz3 := HLS2.out.size
                  have HVT := hide hvt
                  clear h1 h2 hsk hsk2 f3 OT OJ HLS s0 s1 g1 y0 hsz hvt
                  go_wp2_with (at_builtin; refine wpList_append_lies _ rfl (.tmp 97) (.tmp 101) 25 rfl (H + 2) 3 i3 _ 1 8 Try.underlying25 hi3 hz30 hz31 hz32 rfl (by omega) vj M (J.map (Value.int .i64)) rfl (by exact own_past HMJ OJ2 hlow (Fr.mono ((Fr.refl (fun _ => False) _).alloc _) (fun _ _ h => h.elim))) ⟨w3.heap.size, 0, none⟩ 1 1 [.int .i64 (N : Int)] rfl rfl (by exact news_one _ _ _ _ rfl) (by simp [Value.oneCell']) (by omega) (by unfold maxLen; omega) (by omega) (by simp; omega) (w3.heap.size + 1) (by simp) ?_; intro gg cap w4 hown1 hgrow hat1 hlt1; obtain ⟨hR, hc1, hf1⟩ := join_step HLS2 HRU OT2 OJ2 (by have := HNT.out; omega) (by have := HMJ.out; omega) hl HN.out hend HX.out hend2 HNT HMJ hown1 hgrow)
                  have hgt : q + 1 < blk D (skipE D (q + 1)) := by have := HN.out; have := skipE_gt D (q + 1) (by omega); have := blk_ge D (skipE D (q + 1)); omega
                  go_roundg (n - blk D (skipE D (q + 1)))
                  case measure => have := HG.out; omega
                  case rel => exact hR
                · have q3 : decide ((q : Int) + 1 < (n : Int)) = false := decide_eq_false (by omega)
                  go_quiet (fail)
                  go_wp2
                  go_roundg (n - (q + 1))
                  case measure => have := HG.out; omega
                  case rel => exact drop_step HLS HRU OT OJ (by have := HNT.out; omega) (by have := HMJ.out; omega) (by omega) HN.out hend HX.out _
            · have hb' : (x != 92) = true := by simp [bne, hb]
              go_wp2_with (go_at_call 27; refine (atLineEnd_any wr sb _ n c q _ D HLS.out.scan HN.out (hide HLS.out.row) hq hN).mono ?_; rintro r w1 ⟨rfl, h1⟩; rw [h1, hend]; clear h1 w1)
              go_quiet (fail)
              go_wp2_with (at_builtin; refine wpList_append_lies _ rfl (.tmp 75) (.tmp 77) 22 rfl (H + 2) 5 i5 _ 1 1 Try.underlying22 hi5 hz50 hz51 hz52 rfl (by omega) vt N (T.map (Value.int .u8)) rfl (by exact own_past HNT OT hlow (fr_pos wr sb _ _ _)) ⟨wr.heap.size, 0, none⟩ 1 1 [.int .u8 x] rfl rfl (by exact news_one _ _ _ _ (by simp [World.setCell])) (by simp [Value.oneCell']) (by omega) (by unfold maxLen; omega) (by omega) (by simp [World.setCell]; omega) (wr.heap.size + 1) (by simp [World.setCell]) ?_; intro gg cap w1 hown1 hgrow hat1 hlt1; obtain ⟨hR, hc1, hf1⟩ := plain_step HLS HRU OT OJ (by have := HNT.out; omega) (by have := HMJ.out; omega) hlt hend HX hb HNT hown1 hgrow)
              go_roundg (n - (q + 1))
              case measure => have := HG.out; omega
              case rel => exact hR
          · obtain ⟨N, hNT⟩ : ∃ N, T.length = N := ⟨_, rfl⟩
            obtain ⟨M, hMJ⟩ : ∃ M, J.length = M := ⟨_, rfl⟩
            have HNT := hide hNT
            have HMJ := hide hMJ
            clear hNT hMJ
            obtain ⟨av, cv, hvt⟩ := vt_shape (unhide OT) HNT
            obtain ⟨aw, cw, hvj⟩ := vt_shape (unhide OJ) HMJ
            rw [hvt, hvj] at HLS
            rw [hvt] at OT y0
            rw [hvj] at OJ y2
            clear hvt hvj
            go_wp2_with fail
            refine (atLineEnd_any wr sb _ n c q _ D HLS.out.scan HN.out (hide HLS.out.row) hq hN).mono ?_
            rintro r w1 ⟨rfl, h1⟩
            rw [h1, hend]
            clear h1 w1
            go_wp2_with fail
            refine (skipLineEnd_any wr sb _ n c q l (k + cc) D HLS.out.scan HN.out (hide HLS.out.row) hq hN).mono ?_
            rintro r w2 ⟨rfl, hsk⟩
            have h2 := HLS.out.skip hsk
            have HF := hide hsk.1
            have x0 : w2.cell? ⟨H + 1, 0, none⟩ = some (.slice av N cv) := by simp [cell_of_blk h2.var]
            have x1 : w2.cell? ⟨H + 1, 1, none⟩ = some (.int .i64 ln) := by simp [cell_of_blk h2.var]
            have x2 : w2.cell? ⟨H + 1, 2, none⟩ = some (.slice aw M cw) := by simp [cell_of_blk h2.var]
            have z0 : w2.cell? ⟨H, 0, none⟩ = some (.slice none 0 0) := by simp [cell_of_blk h2.res]
            have z1 : w2.cell? ⟨H, 1, none⟩ = some (.int .i64 0) := by simp [cell_of_blk h2.res]
            have z2 : w2.cell? ⟨H, 2, none⟩ = some (.slice none 0 0) := by simp [cell_of_blk h2.res]
            have f0 : w2.frozen? ⟨H, 0, none⟩ = false := free_of_blk h2.res 0
            have f1 : w2.frozen? ⟨H, 1, none⟩ = false := free_of_blk h2.res 1
            have f2 : w2.frozen? ⟨H, 2, none⟩ = false := free_of_blk h2.res 2
            have H2 := hide h2
            clear h2 hsk s0 s1 g1 y0 y2
            go_wp2
            refine bodyPost_ret (v := .agg #[.slice av N cv, .int .i64 ln, .slice aw M cw]) (by simp [results, Try.results22, go_sem, z0, z1, z2]) rfl ?_
            exact slow_end HLS.out H2.out HF.out HL.out HRU.out hend OT.out OJ.out _ (Fr.three H _ _ _)
    · go_wp2_with (go_at_call 25; refine (lineEndsAt_any wc sb _ n c p ln D e HS.out HN.out HR (by omega) hN).mono ?_; rintro r w1 ⟨rfl, h1⟩; rw [h1, hend]; clear h1 w1)
      have v0 : wc.cell? ⟨H + 1, 0, none⟩ = some (.slice none 0 0) := by simp [cell_of_blk HW.out.var]
      have v1 : wc.frozen? ⟨H + 1, 0, none⟩ = false := free_of_blk HW.out.var 0
      have g1 : wc.frozen? ⟨sb, 1, none⟩ = false := free_of_blk HS.out 1
      have p0 : (0 : Int) ≤ (p : Int) := by omega
      have p1 : (p : Int) ≤ (e : Int) := by omega
      have p2 : (e : Int) ≤ (c : Int) := by omega
      go_region
      go_wp2_with fail
      · have h1 := ((HW.out.setText (.slice (some ⟨b, off, none⟩) (e - p) 0)).setPos e _ rfl).quiet (Fr.refl _ _).drew
        obtain ⟨W1, hW1⟩ : ∃ W, W = ((wc.setCell ⟨H + 1, 0, none⟩ (.slice (some ⟨b, off, none⟩) (e - p) 0)).setCell ⟨sb, 1, none⟩ (.int .i64 (e : Int))).drew := ⟨_, rfl⟩
        rw [← hW1] at h1 ⊢
        clear hW1
        refine (skipLineEnd_any W1 sb _ n c e l k D (by rw [HL.out]; exact h1.scan) HN.out (hide h1.row) he2 hN).mono ?_
        rintro r w2 ⟨rfl, hsk⟩
        have h2 := h1.skip hsk
        have y0 : w2.cell? ⟨H + 1, 0, none⟩ = some (.slice (some ⟨b, off, none⟩) (e - p) 0) := by simp [cell_of_blk h2.var]
        have y1 : w2.cell? ⟨H + 1, 1, none⟩ = some (.int .i64 ln) := by simp [cell_of_blk h2.var]
        have y2 : w2.cell? ⟨H + 1, 2, none⟩ = some (.slice none 0 0) := by simp [cell_of_blk h2.var]
        have z0 : w2.cell? ⟨H, 0, none⟩ = some (.slice none 0 0) := by simp [cell_of_blk h2.res]
        have z1 : w2.cell? ⟨H, 1, none⟩ = some (.int .i64 0) := by simp [cell_of_blk h2.res]
        have z2 : w2.cell? ⟨H, 2, none⟩ = some (.slice none 0 0) := by simp [cell_of_blk h2.res]
        have f0 : w2.frozen? ⟨H, 0, none⟩ = false := free_of_blk h2.res 0
        have f1 : w2.frozen? ⟨H, 1, none⟩ = false := free_of_blk h2.res 1
        have f2 : w2.frozen? ⟨H, 2, none⟩ = false := free_of_blk h2.res 2
        have H2 := hide h2
        clear h1 h2 hsk s0 s1 v0 v1 g1
        go_wp2
        refine bodyPost_ret (v := .agg #[(.slice (some ⟨b, off, none⟩) (e - p) 0), .int .i64 ln, .slice none 0 0]) (by simp [results, Try.results22, go_sem, z0, z1, z2]) rfl ?_
        exact fast_end H2.out HL.out HN.out he1 he2 hnc HNO.out hend (.inl ⟨h, rfl⟩) _ (Fr.three H _ _ _)
      · have h1 := ((HW.out.setText (.slice (some ⟨b, off + p, none⟩) (e - p) (c - p))).setPos e _ rfl).quiet (Fr.refl _ _).drew
        obtain ⟨W1, hW1⟩ : ∃ W, W = ((wc.setCell ⟨H + 1, 0, none⟩ (.slice (some ⟨b, off + p, none⟩) (e - p) (c - p))).setCell ⟨sb, 1, none⟩ (.int .i64 (e : Int))).drew := ⟨_, rfl⟩
        rw [← hW1] at h1 ⊢
        clear hW1
        refine (skipLineEnd_any W1 sb _ n c e l k D (by rw [HL.out]; exact h1.scan) HN.out (hide h1.row) he2 hN).mono ?_
        rintro r w2 ⟨rfl, hsk⟩
        have h2 := h1.skip hsk
        have y0 : w2.cell? ⟨H + 1, 0, none⟩ = some (.slice (some ⟨b, off + p, none⟩) (e - p) (c - p)) := by simp [cell_of_blk h2.var]
        have y1 : w2.cell? ⟨H + 1, 1, none⟩ = some (.int .i64 ln) := by simp [cell_of_blk h2.var]
        have y2 : w2.cell? ⟨H + 1, 2, none⟩ = some (.slice none 0 0) := by simp [cell_of_blk h2.var]
        have z0 : w2.cell? ⟨H, 0, none⟩ = some (.slice none 0 0) := by simp [cell_of_blk h2.res]
        have z1 : w2.cell? ⟨H, 1, none⟩ = some (.int .i64 0) := by simp [cell_of_blk h2.res]
        have z2 : w2.cell? ⟨H, 2, none⟩ = some (.slice none 0 0) := by simp [cell_of_blk h2.res]
        have f0 : w2.frozen? ⟨H, 0, none⟩ = false := free_of_blk h2.res 0
        have f1 : w2.frozen? ⟨H, 1, none⟩ = false := free_of_blk h2.res 1
        have f2 : w2.frozen? ⟨H, 2, none⟩ = false := free_of_blk h2.res 2
        have H2 := hide h2
        clear h1 h2 hsk s0 s1 v0 v1 g1
        go_wp2
        refine bodyPost_ret (v := .agg #[(.slice (some ⟨b, off + p, none⟩) (e - p) (c - p)), .int .i64 ln, .slice none 0 0]) (by simp [results, Try.results22, go_sem, z0, z1, z2]) rfl ?_
        exact fast_end H2.out HL.out HN.out he1 he2 hnc HNO.out hend (.inr rfl) _ (Fr.three H _ _ _)
end Go.Proofs.Qxb6621698a
