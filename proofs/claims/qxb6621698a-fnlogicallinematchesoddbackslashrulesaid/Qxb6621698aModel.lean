/-
  zzModelLogical, walked.
-/
import Derived.Test.Qxb6621698aLineF
import Derived.Deep.DeepCutAuto
import Derived.Deep.CutBlock
namespace Go.Proofs.Qxb6621698a
open Go.RowKit

/-- What zzModelLogical leaves. -/
def ModelR (D : List Int) (w : World) (p : Nat) (l : Int) (e : Ending) (w' : World) : Prop :=
  ∃ (T J : List Int) (p' c' : Nat) (vt vj : Value), e = .returned (.tuple #[vt, vj, .int .i64 (p' : Int), .int .i64 (lnx l c')]) ∧ Runs D p [] [] 0 (T, J, p', c') ∧ RowV .u8 w' vt T ∧ RowV .i64 w' vj J ∧ Below w.heap.size w w'

/-- Where the physical line that comes next begins. -/
def beginAt (D : List Int) (first : Bool) (st : Nat) : Nat := if first = true then st else blk D st
theorem beginAt_true (D : List Int) (st : Nat) : beginAt D true st = st := rfl
theorem beginAt_false (D : List Int) (st : Nat) : beginAt D false st = blk D st := rfl
theorem beginAt_ge (D : List Int) (b : Bool) (st : Nat) : st ≤ beginAt D b st := by
  cases b
  · exact blk_ge D st
  · exact Nat.le_refl _
theorem beginAt_le (D : List Int) (b : Bool) (st : Nat) (h : st ≤ D.length) : beginAt D b st ≤ D.length := by
  cases b
  · exact blk_le D st h
  · exact h

/-- The outer loop's relation. -/
def ModR (D : List Int) (w : World) (n p : Nat) (l : Int) (g : Nat) (vl vt vj vs vf : Value) (wr : World) : Prop :=
  ∃ (st : Nat) (T J : List Int) (cc : Nat) (fb : Bool), st ≤ n ∧ g = n - st ∧ vl = .int .i64 (lnx l cc) ∧ vs = .int .i64 st ∧ vf = .bool fb ∧ (∀ r, Runs D (beginAt D fb st) T J cc r → Runs D p [] [] 0 r) ∧
    wr.ownsRow w.heap.size 5 1 vt T.length (T.map (Value.int .u8)) ∧ wr.ownsRow w.heap.size 3 1 vj J.length (J.map (Value.int .i64)) ∧ T.length ≤ st ∧ J.length ≤ st ∧ Below w.heap.size w wr

/-- What is kept of a physical line that ends in 'run' backslashes. -/
def KeepR (run e : Nat) (cb : Bool) (kp : Nat) : Prop := (cb = true ∧ run % 2 = 1 ∧ kp + 1 = e) ∨ (cb = false ∧ run % 2 = 0 ∧ kp = e)

/-- The text so far: what it was and the line from p0 to i. -/
def TextR (D : List Int) (w : World) (T J : List Int) (p0 i : Nat) (vj vt : Value) (wx : World) : Prop :=
  wx.ownsRow w.heap.size 5 1 vt (T ++ seg D p0 i).length ((T ++ seg D p0 i).map (Value.int .u8)) ∧ wx.ownsRow w.heap.size 3 1 vj J.length (J.map (Value.int .i64)) ∧ Below w.heap.size w wx

theorem TextR.start {D : List Int} {w wo : World} {T J : List Int} {p0 : Nat} {vj vt : Value} (ot : Hid (wo.ownsRow w.heap.size 5 1 vt T.length (T.map (Value.int .u8)))) (oj : Hid (wo.ownsRow w.heap.size 3 1 vj J.length (J.map (Value.int .i64)))) (hb : Hid (Below w.heap.size w wo)) : TextR D w T J p0 p0 vj vt wo := by
  refine ⟨?_, oj.out, hb.out⟩
  rw [seg_nil, List.append_nil]
  exact ot.out

theorem text_next {D : List Int} {w wr w1 : World} {T J : List Int} {p0 i N gg cap : Nat} {vj u : Value} {x : Int} {o : Obj} (hot : Hid (wr.ownsRow w.heap.size 5 1 u N ((T ++ seg D p0 i).map (Value.int .u8)))) (hNT : Hid ((T ++ seg D p0 i).length = N)) (hoj : Hid (wr.ownsRow w.heap.size 3 1 vj J.length (J.map (Value.int .i64)))) (hb : Hid (Below w.heap.size w wr))
    (hown : w1.ownsRow w.heap.size 5 1 (.slice (some ⟨gg, 0, none⟩) (N + 1) cap) (N + 1) ((T ++ seg D p0 i).map (Value.int .u8) ++ [.int .u8 x])) (hg : (wr.alloc o).grownBy w1 u.ownBlock) (hx : Hid (bt D i = x)) (hi : p0 ≤ i) (hi2 : i < D.length) : TextR D w T J p0 (i + 1) vj (.slice (some ⟨gg, 0, none⟩) (N + 1) cap) w1 := by
  have hot' := hot.out.alloc o
  have hoj' := hoj.out.alloc o
  have f : Fr (fun k => u.ownBlock = some k) (wr.alloc o) w1 := (Fr.refl _ _).grown hg (fun k _ hk => hk)
  have hs : T ++ seg D p0 (i + 1) = (T ++ seg D p0 i) ++ [x] := by rw [seg_snoc D p0 i hi hi2, hx.out, List.append_assoc]
  have hsz := hb.out.size
  refine ⟨?_, f.own hoj' (fun k hk => own_ne hoj' hot' (by decide) hk), (hb.out.alloc hsz o).grown hg (by simp; omega) (fun k hk => (hot.out.lt k hk).1)⟩
  rw [hs, List.map_append, List.length_append, hNT.out]
  exact hown

theorem skip_crlf {D : List Int} {e n : Nat} (hn : n = D.length) (h : e + 1 < n) (h1 : bt D e = 13) (h2 : bt D (e + 1) = 10) : skipE D e = if true = true then e + 2 else e + 1 := by
  rw [if_pos rfl, skipE, if_neg (by omega), if_pos ⟨h1, by omega, h2⟩]
theorem skip_plain {D : List Int} {e n : Nat} (hn : n = D.length) (h : e < n) (h1 : ¬ (bt D e = 13 ∧ e + 1 < n ∧ bt D (e + 1) = 10)) : skipE D e = if false = true then e + 2 else e + 1 := by
  subst hn
  rw [if_neg (by decide), skipE, if_neg (by omega), if_neg h1]

theorem line_close {D : List Int} {p p0 e run kp cc : Nat} {T J : List Int} {cb : Bool} (hle : e ≤ D.length) (he1 : p0 ≤ e) (he : isEnd D e = true) (hno : ∀ i, p0 ≤ i → i < e → isEnd D i = false) (ht : Trail D p0 e run) (hk : KeepR run e cb kp) (hruns : ∀ r, Runs D p0 T J cc r → Runs D p [] [] 0 r) (hx : e = D.length ∨ cb = false) :
    Runs D p [] [] 0 (T ++ seg D p0 kp, J, skipE D e, cc + incE D e) := by
  refine hruns _ (Runs.line he hle _ p0 run T rfl he1 hno ht (fun h => ?_) (fun h hl => ?_) (fun h hl => ?_))
  · rcases hk with ⟨_, h1, _⟩ | ⟨_, _, h2⟩
    · omega
    · rw [h2]
  · rcases hk with ⟨_, _, h2⟩ | ⟨_, h1, _⟩
    · rw [show kp = e - 1 by omega]
    · omega
  · rcases hk with ⟨h3, _, _⟩ | ⟨_, h1, _⟩
    · rcases hx with hx | hx
      · omega
      · rw [hx] at h3; cases h3
    · omega

theorem model_last {D : List Int} {w wc : World} {n p p0 e run kp cc : Nat} {l lc : Int} {T J : List Int} {cb : Bool} {vt vj : Value} (hn : n = D.length) (hlast : e = n) (he1 : p0 ≤ e) (he : isEnd D e = true) (hno : ∀ i, p0 ≤ i → i < e → isEnd D i = false) (ht : Trail D p0 e run) (hk : KeepR run e cb kp) (hruns : ∀ r, Runs D p0 T J cc r → Runs D p [] [] 0 r) (hl : lnx l cc = lc)
    (ot : wc.ownsRow w.heap.size 5 1 vt (T ++ seg D p0 kp).length ((T ++ seg D p0 kp).map (Value.int .u8))) (oj : wc.ownsRow w.heap.size 3 1 vj J.length (J.map (Value.int .i64))) (hb : Below w.heap.size w wc) :
    ModelR D w p l (.returned (.tuple #[vt, vj, .int .i64 (e : Int), .int .i64 lc])) wc := by
  have h1 := line_close (by omega) he1 he hno ht hk hruns (.inl (by omega))
  have h2 : skipE D e = e := by rw [skipE, if_pos (by omega)]
  have h3 : incE D e = 0 := by rw [incE, if_pos (by omega)]
  rw [h2, h3, Nat.add_zero] at h1
  exact ⟨_, _, e, cc, vt, vj, by rw [hl], h1, own_rowV ot, own_rowV oj, hb⟩

theorem model_even {D : List Int} {w wc : World} {n p p0 e run kp cc nx : Nat} {l lc x : Int} {T J : List Int} {vt vj : Value} (hn : n = D.length) (hlt : e < n) (he1 : p0 ≤ e) (he : isEnd D e = true) (hno : ∀ i, p0 ≤ i → i < e → isEnd D i = false) (ht : Trail D p0 e run) (hk : KeepR run e false kp) (hruns : ∀ r, Runs D p0 T J cc r → Runs D p [] [] 0 r) (hl : lnx l cc = lc) (hnx : skipE D e = nx) (hx : x = (nx : Int))
    (ot : wc.ownsRow w.heap.size 5 1 vt (T ++ seg D p0 kp).length ((T ++ seg D p0 kp).map (Value.int .u8))) (oj : wc.ownsRow w.heap.size 3 1 vj J.length (J.map (Value.int .i64))) (hb : Below w.heap.size w wc) :
    ModelR D w p l (.returned (.tuple #[vt, vj, .int .i64 x, .int .i64 (wrap64 (lc + 1))])) wc := by
  have h1 := line_close (by omega) he1 he hno ht hk hruns (.inr rfl)
  have h3 : incE D e = 1 := by rw [incE, if_neg (by omega)]
  rw [hnx, h3] at h1
  exact ⟨_, _, nx, cc + 1, vt, vj, by rw [← hl, lnx_succ, hx], h1, own_rowV ot, own_rowV oj, hb⟩

theorem model_next {D : List Int} {w wc w1 : World} {n p p0 e run kp cc nx g st N M gg cap : Nat} {l lc x : Int} {T J : List Int} {vt vj : Value} {o : Obj} (hn : n = D.length) (hlt : e < n) (he1 : p0 ≤ e) (he : isEnd D e = true) (hno : ∀ i, p0 ≤ i → i < e → isEnd D i = false) (ht : Trail D p0 e run) (hk : KeepR run e true kp) (hruns : ∀ r, Runs D p0 T J cc r → Runs D p [] [] 0 r) (hl : lnx l cc = lc) (hnx : skipE D e = nx) (hx : x = (nx : Int)) (hst : st ≤ p0) (hT : T.length ≤ st) (hJ : J.length ≤ st) (hg0 : g = n - nx)
    (ot : wc.ownsRow w.heap.size 5 1 vt (T ++ seg D p0 kp).length ((T ++ seg D p0 kp).map (Value.int .u8))) (oj : wc.ownsRow w.heap.size 3 1 vj J.length (J.map (Value.int .i64))) (hb : Below w.heap.size w wc) (hN : (T ++ seg D p0 kp).length = N) (hM : J.length = M)
    (hown : w1.ownsRow w.heap.size 3 1 (.slice (some ⟨gg, 0, none⟩) (M + 1) cap) (M + 1) (J.map (Value.int .i64) ++ [.int .i64 (N : Int)])) (hg : (wc.alloc o).grownBy w1 vj.ownBlock) :
    ModR D w n p l g (.int .i64 (wrap64 (lc + 1))) vt (.slice (some ⟨gg, 0, none⟩) (M + 1) cap) (.int .i64 x) (.bool false) w1 := by
  have ot' := ot.alloc o
  have oj' := oj.alloc o
  have f : Fr (fun k => vj.ownBlock = some k) (wc.alloc o) w1 := (Fr.refl _ _).grown hg (fun k _ hk => hk)
  have hsz := hb.size
  have hk2 : kp ≤ e ∧ kp + 1 = e := by rcases hk with ⟨_, _, h⟩ | ⟨h, _, _⟩
                                       · exact ⟨by omega, h⟩
                                       · cases h
  have hgt := skipE_gt D e (by omega)
  have hle := skipE_le D e (by omega)
  refine ⟨nx, T ++ seg D p0 kp, J ++ [((T ++ seg D p0 kp).length : Int)], cc + 1, false, by omega, hg0, by rw [← hl, lnx_succ], by rw [hx], rfl, fun r hr => hruns _ ?_, f.own ot' (fun k hk => own_ne ot' oj' (by decide) hk), ?_, ?_, ?_, (hb.alloc hsz o).grown hg (by simp; omega) (fun k hk => (oj.lt k hk).1)⟩
  · refine Runs.line he (by omega) _ p0 run T rfl he1 hno ht (fun h => ?_) (fun h hl => by omega) (fun h _ => ?_)
    · rcases hk with ⟨_, h1, _⟩ | ⟨h1, _, _⟩
      · omega
      · cases h1
    · rw [beginAt_false, ← hnx] at hr
      rw [show e - 1 = kp by omega]
      exact hr
  · rw [List.length_append, List.map_append, hM, hN]; exact hown
  · rw [List.length_append, seg_len D p0 kp (by omega)]; omega
  · rw [List.length_append, List.length_singleton]; omega

theorem join_own {wv : World} {B : Nat} {vj : Value} {J : List Int} {M : Nat} {xs : List Value} {o : Obj} (hM : Hid (J.length = M)) (h : Hid (wv.ownsRow B 3 1 vj J.length xs)) : (wv.alloc o).ownsRow B 3 1 vj M xs := by
  rw [← hM.out]; exact h.out.alloc o

set_option maxRecDepth 100000 in
set_option maxHeartbeats 12800000 in
theorem model_walk (w : World) (a : Option Addr) (n c p : Nat) (l : Int) (D : List Int) (hl : (Lit.int .i64 l).wf = true) (hn : n = D.length) (hr : Row .u8 w w.heap.size a D) (hp : p ≤ n) (hN : n ≤ 1048576) :
    Calls Try.prog 10 #[.slice a n c, .int .i64 p, .int .i64 l] w fun e w' => ModelR D w p l e w' := by
  obtain ⟨i5, hi5, hz50, hz51, hz52⟩ := info_parts info5
  obtain ⟨i3, hi3, hz30, hz31, hz32⟩ := info_parts info3
  have HN := hide hn
  have HR := hide hr
  have HL := hide (lnx_zero l hl)
  clear hn hr hl
  go_enter Try.func10, Try.ntmps10
  go_wp2
  go_loopg [2, 10, 11, 12, 13] (n - p) (fun g vl vt vj vs vf wr => ModR D w n p l g vl vt vj vs vf wr)
  case atStart => exact ⟨p, [], [], 0, true, hp, rfl, by rw [HL.out], rfl, rfl, fun r h => h, World.ownsRow_nil _ _ _ _, World.ownsRow_nil _ _ _ _, by simp, by simp, Below.refl _ _⟩
  case round =>
    obtain ⟨st, T, J, cc, fb, hst, hg, rfl, rfl, rfl, hruns, ot, oj, hT, hJ, hb⟩ := hrel
    obtain ⟨wo, hwo⟩ : ∃ wo : World, wo = wr := ⟨_, rfl⟩
    rw [← hwo] at ot oj hb ⊢
    clear hwo
    have HG := hide hg
    have HRU := hide hruns
    have OT := hide ot
    have OJ := hide oj
    have HB := hide hb
    have hsz := hb.size
    have HRo : Hid (Row .u8 wo w.heap.size a D) := HR.out.fr (Fr.of_below hb) (fun i hi h => by omega)
    clear hg hruns ot oj hb
    obtain ⟨lc, hlc⟩ : ∃ lc, lnx l cc = lc := ⟨_, rfl⟩
    rw [hlc]
    have HLC := hide hlc
    clear hlc
    go_upto_if 22 with fail
    go_cut [12] (fun s wx => s = .int .i64 (beginAt D fb st : Nat) ∧ wx = wo)
    case first =>
      cases fb
      · simp only [Bool.not_false]
        go_wp2_with fail
        go_loop [12] (fun t => ∃ s : Nat, st ≤ s ∧ s ≤ n ∧ t = .int .i64 s ∧ blk D s = blk D st) (fun t => n - (intOf t).toNat)
        case atStart => exact ⟨st, Nat.le_refl _, hst, rfl, rfl⟩
        case round =>
          obtain ⟨s, hs1, hs2, rfl, hbl⟩ := hrel
          have HBL := hide hbl
          clear hbl
          by_cases hlt : s < n
          · obtain ⟨b, off, ha, _, hc⟩ := HRo.out s (by have := HN.out; omega)
            subst ha
            obtain ⟨x, hx⟩ : ∃ x, bt D s = x := ⟨_, rfl⟩
            rw [hx] at hc
            have HX := hide hx
            clear hx
            have s0 : (0 : Int) ≤ (s : Int) := by omega
            have s1 : (s : Int) < (n : Int) := by omega
            cases hbx : isBl x
            · go_wp2_with (go_at_call 23; refine (zzIsBlank_any x wo).mono ?_; rintro r w1 ⟨rfl, h1⟩; rw [h1, hbx]; clear h1 w1)
              go_meet
              exact ⟨by rw [beginAt_false, ← HBL.out, blk_stop D s (by rw [HX.out, hbx]; simp)], rfl⟩
            · go_wp2_with (go_at_call 23; refine (zzIsBlank_any x wo).mono ?_; rintro r w1 ⟨rfl, h1⟩; rw [h1, hbx]; clear h1 w1)
              exact ⟨⟨s + 1, by omega, by omega, by go_num, (blk_step D s (by have := HN.out; omega) (by rw [HX.out, hbx])).symm.trans HBL.out⟩, by simp [intOf]; omega⟩
          · have hd : decide ((s : Int) < (n : Int)) = false := decide_eq_false (by omega)
            go_wp2_with fail
            go_meet
            exact ⟨by rw [beginAt_false, ← HBL.out, blk_stop D s (by have := HN.out; omega)], rfl⟩
      · go_wp2_with fail
        go_meet
        exact ⟨rfl, rfl⟩
    case rest =>
      obtain ⟨rfl, hwc⟩ := hcut
      rw [hwc]
      clear hwc wc
      have hb1 := beginAt_ge D fb st
      have hb2 := beginAt_le D fb st (by have := HN.out; omega)
      obtain ⟨p0, hp0⟩ : ∃ p0, beginAt D fb st = p0 := ⟨_, rfl⟩
      rw [hp0] at hb1 hb2 HRU ⊢
      have hb3 : p0 ≤ n := by have := HN.out; omega
      clear hp0 hb2
      go_upto_block 4 with fail
      go_cut [14] (fun v wx => (∃ e : Nat, v = .int .i64 e ∧ p0 ≤ e ∧ e ≤ n ∧ isEnd D e = true ∧ ∀ i, p0 ≤ i → i < e → isEnd D i = false) ∧ wx = wo)
      case first =>
        go_wp2_with fail
        go_loop [14] (fun t => ∃ e : Nat, p0 ≤ e ∧ e ≤ n ∧ t = .int .i64 e ∧ ∀ i, p0 ≤ i → i < e → isEnd D i = false) (fun t => n - (intOf t).toNat)
        case atStart => exact ⟨p0, Nat.le_refl _, hb3, rfl, fun i h1 h2 => by omega⟩
        case round =>
          obtain ⟨e, he1, he2, rfl, hno⟩ := hrel
          have HNO := hide hno
          clear hno
          by_cases hlt : e < n
          · obtain ⟨b, off, ha, _, hc⟩ := HRo.out e (by have := HN.out; omega)
            subst ha
            obtain ⟨x, hx⟩ : ∃ x, bt D e = x := ⟨_, rfl⟩
            rw [hx] at hc
            have HX := hide hx
            clear hx
            have e0 : (0 : Int) ≤ (e : Int) := by omega
            have e1 : (e : Int) < (n : Int) := by omega
            cases hx1 : x != 10
            · have hend : isEnd D e = true := by simp at hx1; simp [isEnd, HX.out, hx1]
              have HE := hide hend
              clear hend
              go_wp2
              go_meet
              exact ⟨⟨e, rfl, he1, he2, HE.out, HNO.out⟩, rfl⟩
            · cases hx2 : x != 13
              · have hend : isEnd D e = true := by simp at hx2; simp [isEnd, HX.out, hx2]
                have HE := hide hend
                clear hend
                go_wp2
                go_meet
                exact ⟨⟨e, rfl, he1, he2, HE.out, HNO.out⟩, rfl⟩
              · have hend : isEnd D e = false := by
                  have h1 : ¬ e = D.length := by have := HN.out; omega
                  simp at hx1 hx2
                  simp [isEnd, HX.out, hx1, hx2, h1]
                have HE := hide hend
                clear hend
                go_wp2
                exact ⟨⟨e + 1, by omega, by omega, by go_num, fun i h1 h2 => by
                  by_cases h : i < e
                  · exact HNO.out i h1 h
                  · obtain rfl : i = e := by omega
                    exact HE.out⟩, by simp [intOf]; omega⟩
          · have hd : decide ((e : Int) < (n : Int)) = false := decide_eq_false (by omega)
            have hend : isEnd D e = true := by have h1 : e = D.length := by { have := HN.out; omega }; simp [isEnd, h1]
            have HE := hide hend
            clear hend
            go_wp2
            go_meet
            exact ⟨⟨e, rfl, he1, he2, HE.out, HNO.out⟩, rfl⟩
      case rest =>
        obtain ⟨⟨e, rfl, he1, he2, hend, hno⟩, hwc⟩ := hcut
        rw [hwc]
        have HE := hide hend
        have HNO := hide hno
        clear hwc wc hend hno
        go_upto_block 6 with fail
        go_cut [15] (fun v wx => (∃ run : Nat, v = .int .i64 run ∧ Trail D p0 e run) ∧ wx = wo)
        case first =>
          go_wp2_with fail
          go_loop [15] (fun t => ∃ run : Nat, run ≤ e - p0 ∧ t = .int .i64 run ∧ ∀ k, k < run → bt D (e - 1 - k) = 92) (fun t => n - (intOf t).toNat)
          case atStart => exact ⟨0, Nat.zero_le _, rfl, fun k hk => by omega⟩
          case round =>
            obtain ⟨run, hr1, rfl, hall⟩ := hrel
            have HALL := hide hall
            clear hall
            by_cases hlt : run < e - p0
            · obtain ⟨b, off, ha, _, hc⟩ := HRo.out (e - 1 - run) (by have := HN.out; omega)
              subst ha
              obtain ⟨x, hx⟩ : ∃ x, bt D (e - 1 - run) = x := ⟨_, rfl⟩
              rw [hx] at hc
              have HX := hide hx
              clear hx
              have e0 : (0 : Int) ≤ (e : Int) - 1 - (run : Int) := by omega
              have e1 : (e : Int) - 1 - (run : Int) < (n : Int) := by omega
              have e2 : (run : Int) < (e : Int) - (p0 : Int) := by omega
              have e3 : ((e : Int) - 1 - (run : Int)).toNat = e - 1 - run := by omega
              cases hx1 : x == 92
              · go_wp2
                go_meet
                exact ⟨⟨run, rfl, ⟨hr1, HALL.out, fun _ => by rw [HX.out]; simpa using hx1⟩⟩, rfl⟩
              · go_wp2
                exact ⟨⟨run + 1, by omega, by go_num, fun k hk => by
                  by_cases h : k < run
                  · exact HALL.out k h
                  · obtain rfl : k = run := by omega
                    rw [HX.out]; simpa using hx1⟩, by simp [intOf]; omega⟩
            · have hd : decide ((run : Int) < (e : Int) - (p0 : Int)) = false := decide_eq_false (by omega)
              go_wp2
              go_meet
              exact ⟨⟨run, rfl, ⟨hr1, HALL.out, fun h => absurd h hlt⟩⟩, rfl⟩
        case rest =>
          obtain ⟨⟨run, rfl, htr⟩, hwc⟩ := hcut
          rw [hwc]
          have HT := hide htr
          have hrle := htr.le
          clear hwc wc htr
          go_upto_if 78 with fail
          go_cut [16, 17] (fun v16 v17 wx => (∃ (cb : Bool) (kp : Nat), v16 = .bool cb ∧ v17 = .int .i64 kp ∧ KeepR run e cb kp) ∧ wx = wo)
          case first =>
            rcases Nat.mod_two_eq_zero_or_one run with hm | hm
            · have hm' : ((run : Int) % 2 == 1) = false := by simp; omega
              go_wp2
              go_meet
              exact ⟨⟨false, e, by rw [hm'], rfl, .inr ⟨rfl, hm, rfl⟩⟩, rfl⟩
            · have hm' : ((run : Int) % 2 == 1) = true := by simp; omega
              have hr0 : 1 ≤ run := by omega
              go_wp2
              go_meet
              exact ⟨⟨true, e - 1, by rw [hm'], by go_num, .inl ⟨rfl, hm, by omega⟩⟩, rfl⟩
          case rest =>
            obtain ⟨⟨cb, kp, rfl, rfl, hkp⟩, hwc⟩ := hcut
            rw [hwc]
            have hk1 : p0 ≤ kp := by rcases hkp with ⟨_, h1, h2⟩ | ⟨_, h1, h2⟩ <;> omega
            have hk2 : kp ≤ e := by rcases hkp with ⟨_, h1, h2⟩ | ⟨_, h1, h2⟩ <;> omega
            have HK := hide hkp
            clear hwc wc hkp
            go_upto_block 8 with fail
            go_cut [10] (fun vt wx => TextR D w T J p0 kp u11 vt wx)
            case first =>
              go_wp2_with fail
              go_loopw [10, 18] (fun vt iv wr => ∃ i : Nat, p0 ≤ i ∧ i ≤ kp ∧ iv = .int .i64 i ∧ TextR D w T J p0 i u11 vt wr) (fun _ iv _ => kp - (intOf iv).toNat)
              case atStart => exact ⟨p0, Nat.le_refl _, hk1, rfl, TextR.start OT OJ HB⟩
              case round =>
                obtain ⟨i, hi1, hi2, rfl, htx⟩ := hrel
                obtain ⟨hot, hoj, hbl⟩ := htx
                have HOJ := hide hoj
                have HBL := hide hbl
                have hsz2 := hbl.size
                obtain ⟨N, hNT⟩ : ∃ N, (T ++ seg D p0 i).length = N := ⟨_, rfl⟩
                have hNb : N ≤ n := by rw [← hNT, List.length_append, seg_len D p0 i (by have := HN.out; omega)]; omega
                rw [hNT] at hot
                have HOT := hide hot
                have HNT := hide hNT
                clear hot hoj hbl hNT
                by_cases hlt : i < kp
                · obtain ⟨b, off, ha, hbB, hc⟩ := HRo.out i (by have := HN.out; omega)
                  have hc' : wr.cell? ⟨b, off + i, none⟩ = some (.int .u8 (bt D i)) := by rw [HBL.out.cell (p := ⟨b, off + i, none⟩) hbB, ← HB.out.cell (p := ⟨b, off + i, none⟩) hbB]; exact hc
                  subst ha
                  obtain ⟨x, hx⟩ : ∃ x, bt D i = x := ⟨_, rfl⟩
                  rw [hx] at hc'
                  have HX := hide hx
                  clear hx hc
                  have i0 : (0 : Int) ≤ (i : Int) := by omega
                  have i1 : (i : Int) < (n : Int) := by omega
                  go_wp2_with (at_builtin; refine wpList_append_lies _ rfl (.tmp 87) (.tmp 92) 22 rfl w.heap.size 5 i5 _ 1 1 Try.underlying22 hi5 hz50 hz51 hz52 rfl (by omega) u10 N ((T ++ seg D p0 i).map (Value.int .u8)) rfl (HOT.out.alloc _) ⟨wr.heap.size, 0, none⟩ 1 1 [.int .u8 x] rfl rfl (by exact news_one _ _ _ _ rfl) (by simp [Value.oneCell']) (by omega) (by unfold maxLen; omega) (by omega) (by simp; omega) (wr.heap.size + 1) (by simp) ?_; intro gg cap w1 hown1 hgrow hat1 hlt1; have hTX := text_next HOT HNT HOJ HBL hown1 hgrow HX hi1 (by have := HN.out; omega))
                  exact ⟨⟨i + 1, by omega, by omega, by go_num, hTX⟩, by simp [intOf]; omega⟩
                · obtain rfl : i = kp := by omega
                  go_wp2
                  go_meet
                  exact ⟨by rw [HNT.out]; exact HOT.out, HOJ.out, HBL.out⟩
            case rest =>
              obtain ⟨hot, hoj, hbl⟩ := hcut
              have HOT := hide hot
              have HOJ := hide hoj
              have HBL := hide hbl
              have hsz2 := hbl.size
              have HRw : Hid (Row .u8 wc w.heap.size a D) := HR.out.fr (Fr.of_below hbl) (fun i hi h => by omega)
              clear hot hoj hbl OT OJ HB HRo
              by_cases hlast : e = n
              · have hlb : ((e : Int) == (n : Int)) = true := by simp [hlast]
                go_wp2
                refine bodyPost_ret (v := .tuple #[u10, u11, .int .i64 (e : Int), .int .i64 lc]) (by simp [results, Try.results10, go_sem]) rfl ?_
                exact model_last HN.out hlast he1 HE.out HNO.out HT.out HK.out HRU.out HLC.out HOT.out HOJ.out HBL.out
              · have hlb : ((e : Int) == (n : Int)) = false := by simp; omega
                have hlt : e < n := by omega
                obtain ⟨N, hNT⟩ : ∃ N, (T ++ seg D p0 kp).length = N := ⟨_, rfl⟩
                have hNb : N ≤ n := by rw [← hNT, List.length_append, seg_len D p0 kp (by have := HN.out; omega)]; omega
                have HNT := hide hNT
                obtain ⟨M, hMJ⟩ : ∃ M, J.length = M := ⟨_, rfl⟩
                have hMb : M ≤ n := by omega
                have HMJ := hide hMJ
                clear hNT hMJ
                obtain ⟨av, cv, hvt⟩ := vt_shape (unhide HOT) HNT
                subst hvt
                obtain ⟨wv, hwv⟩ : ∃ wv : World, wv = wc := ⟨_, rfl⟩
                rw [← hwv] at HOT HOJ HBL hsz2 HRw ⊢
                clear hwv wc
                go_upto_region 26 with fail
                go_cut [123] (fun v wx => (∃ tb : Bool, v = .bool tb ∧ skipE D e = if tb = true then e + 2 else e + 1) ∧ wx = wv)
                case first =>
                  obtain ⟨b, off, ha, _, hc⟩ := HRw.out e (by have := HN.out; omega)
                  subst ha
                  obtain ⟨x, hx⟩ : ∃ x, bt D e = x := ⟨_, rfl⟩
                  rw [hx] at hc
                  have HX := hide hx
                  clear hx
                  have e0 : (0 : Int) ≤ (e : Int) := by omega
                  have e1 : (e : Int) < (n : Int) := by omega
                  by_cases hx13 : x = 13
                  · subst hx13
                    by_cases he : e + 1 < n
                    · obtain ⟨b', off', ha', _, hc'⟩ := HRw.out (e + 1) (by have := HN.out; omega)
                      simp only [Option.some.injEq, Addr.mk.injEq, and_true] at ha'
                      obtain ⟨rfl, rfl⟩ := ha'
                      have e2 : (0 : Int) ≤ (e : Int) + 1 := by omega
                      have e3 : (e : Int) + 1 < (n : Int) := by omega
                      obtain ⟨y, hy⟩ : ∃ y, bt D (e + 1) = y := ⟨_, rfl⟩
                      rw [hy] at hc'
                      have HY := hide hy
                      clear hy
                      by_cases hy10 : y = 10
                      · subst hy10
                        go_wp2
                        go_meet
                        exact ⟨⟨true, rfl, skip_crlf HN.out he HX.out HY.out⟩, rfl⟩
                      · have hy' : (y == 10) = false := by simpa using hy10
                        go_wp2
                        go_meet
                        exact ⟨⟨false, rfl, skip_plain HN.out hlt (fun h => hy10 (HY.out ▸ h.2.2))⟩, rfl⟩
                    · have e3 : decide ((e : Int) + 1 < (n : Int)) = false := decide_eq_false (by omega)
                      go_wp2
                      go_meet
                      exact ⟨⟨false, rfl, skip_plain HN.out hlt (fun h => he h.2.1)⟩, rfl⟩
                  · have hx' : (x == 13) = false := by simpa using hx13
                    go_wp2
                    go_meet
                    exact ⟨⟨false, rfl, skip_plain HN.out hlt (fun h => hx13 (HX.out ▸ h.1))⟩, rfl⟩
                case rest =>
                  obtain ⟨⟨tb, rfl, hsk⟩, hwc⟩ := hcut
                  rw [hwc]
                  clear hwc wc
                  cases tb
                  · rw [if_neg (by decide)] at hsk
                    have HSK := hide hsk
                    clear hsk
                    cases cb
                    · go_wp2
                      refine bodyPost_ret (v := .tuple #[.slice av N cv, u11, .int .i64 ((e : Int) + 1), .int .i64 (wrap64 (lc + 1))]) (by simp [results, Try.results10, go_sem]) rfl ?_
                      exact model_even HN.out hlt he1 HE.out HNO.out HT.out HK.out HRU.out HLC.out HSK.out (by omega) HOT.out HOJ.out HBL.out
                    · go_wp2_with (at_builtin; refine wpList_append_lies _ rfl (.tmp 134) (.tmp 137) 25 rfl w.heap.size 3 i3 _ 1 8 Try.underlying25 hi3 hz30 hz31 hz32 rfl (by omega) u11 M (J.map (Value.int .i64)) rfl (by exact join_own HMJ HOJ) ⟨wv.heap.size, 0, none⟩ 1 1 [.int .i64 (N : Int)] rfl rfl (by exact news_one _ _ _ _ rfl) (by simp [Value.oneCell']) (by omega) (by unfold maxLen; omega) (by omega) (by simp; omega) (wv.heap.size + 1) (by simp) ?_; intro gg cap w1 hown1 hgrow hat1 hlt1; have hMR := model_next (nx := e + 1) (x := (e : Int) + 1) (g := n - (e + 1)) HN.out hlt he1 HE.out HNO.out HT.out HK.out HRU.out HLC.out HSK.out (by omega) hb1 hT hJ rfl HOT.out HOJ.out HBL.out HNT.out HMJ.out hown1 hgrow)
                      go_roundg (n - (e + 1))
                      case measure => have := HG.out; omega
                      case rel => exact hMR
                  · rw [if_pos rfl] at hsk
                    have HSK := hide hsk
                    clear hsk
                    cases cb
                    · go_wp2
                      refine bodyPost_ret (v := .tuple #[.slice av N cv, u11, .int .i64 ((e : Int) + 2), .int .i64 (wrap64 (lc + 1))]) (by simp [results, Try.results10, go_sem]) rfl ?_
                      exact model_even HN.out hlt he1 HE.out HNO.out HT.out HK.out HRU.out HLC.out HSK.out (by omega) HOT.out HOJ.out HBL.out
                    · go_wp2_with (at_builtin; refine wpList_append_lies _ rfl (.tmp 134) (.tmp 137) 25 rfl w.heap.size 3 i3 _ 1 8 Try.underlying25 hi3 hz30 hz31 hz32 rfl (by omega) u11 M (J.map (Value.int .i64)) rfl (by exact join_own HMJ HOJ) ⟨wv.heap.size, 0, none⟩ 1 1 [.int .i64 (N : Int)] rfl rfl (by exact news_one _ _ _ _ rfl) (by simp [Value.oneCell']) (by omega) (by unfold maxLen; omega) (by omega) (by simp; omega) (wv.heap.size + 1) (by simp) ?_; intro gg cap w1 hown1 hgrow hat1 hlt1; have hMR := model_next (nx := e + 2) (x := (e : Int) + 2) (g := n - (e + 2)) HN.out hlt he1 HE.out HNO.out HT.out HK.out HRU.out HLC.out HSK.out (by omega) hb1 hT hJ rfl HOT.out HOJ.out HBL.out HNT.out HMJ.out hown1 hgrow)
                      go_roundg (n - (e + 2))
                      case measure => have := HG.out; omega
                      case rel => exact hMR
end Go.Proofs.Qxb6621698a
