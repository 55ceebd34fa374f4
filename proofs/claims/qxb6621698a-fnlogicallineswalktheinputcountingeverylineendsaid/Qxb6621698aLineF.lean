/-
  zzCountLineEnds, the bounds, zzBytesEqual, zzIntsEqual: walked.
-/
import Derived.Test.Qxb6621698aLineE
namespace Go.Proofs.Qxb6621698a
open Go.RowKit

theorem cntF_le (D : List Int) : ∀ f i, cntF D f i ≤ D.length - i
  | 0, _ => Nat.zero_le _
  | f + 1, i => by
    rw [cntF]
    split
    · rename_i hi
      have h1 := skipE_gt D i hi
      have h2 := cntF_le D f (skipE D i)
      have h3 := cntF_le D f (i + 1)
      split <;> omega
    · exact Nat.zero_le _
theorem cnt_le (D : List Int) (i : Nat) : cnt D i ≤ D.length - i := cntF_le D _ i

theorem cnt_crlf {D : List Int} {i n : Nat} (hn : n = D.length) (hi : i + 1 < n) (h1 : bt D i = 13) (h2 : bt D (i + 1) = 10) : cnt D i = 1 + cnt D (i + 2) := by
  have he : isEnd D i = true := by simp [isEnd, h1]
  rw [cnt_end D i (by omega) he, skipE, if_neg (by omega), if_pos ⟨h1, by omega, h2⟩]
theorem cnt_one {D : List Int} {i n : Nat} (hn : n = D.length) (hi : i < n) (h1 : ¬ (bt D i = 13 ∧ i + 1 < n ∧ bt D (i + 1) = 10)) (h2 : bt D i = 10 ∨ bt D i = 13) : cnt D i = 1 + cnt D (i + 1) := by
  have he : isEnd D i = true := by rcases h2 with h2 | h2 <;> simp [isEnd, h2]
  subst hn
  rw [cnt_end D i hi he, skipE, if_neg (by omega), if_neg h1]
theorem cnt_none {D : List Int} {i n : Nat} (hn : n = D.length) (hi : i < n) (h1 : ¬ bt D i = 10) (h2 : ¬ bt D i = 13) : cnt D i = cnt D (i + 1) := by
  have he : isEnd D i = false := by
    have : ¬ i = D.length := by omega
    simp [isEnd, h1, h2, this]
  exact cnt_plain D i (by omega) he

set_option maxRecDepth 100000 in
set_option maxHeartbeats 1600000 in
theorem count_any (w : World) (a : Option Addr) (n c p : Nat) (D : List Int) (hn : n = D.length) (hr : Row .u8 w w.heap.size a D) (hp : p ≤ n) (hN : n ≤ 2000000) :
    Calls Try.prog 14 #[.slice a n c, .int .i64 p] w fun e w' => e = .returned (.int .i64 (cnt D p)) ∧ w' = w := by
  have hcb : cnt D p ≤ n := by have := cnt_le D p; omega
  have HN := hide hn
  have HR := hide hr
  obtain ⟨C, hC⟩ : ∃ C, cnt D p = C := ⟨_, rfl⟩
  rw [hC] at hcb ⊢
  have HC := hide hC
  clear hn hr hC
  go_enter Try.func14, Try.ntmps14
  go_wp2
  go_loop [5, 6] (fun s t => ∃ (i v : Nat), i ≤ n ∧ t = .int .i64 i ∧ s = .int .i64 v ∧ v + cnt D i = C) (fun _ t => n - (intOf t).toNat)
  case atStart => exact ⟨p, 0, hp, rfl, rfl, by rw [Nat.zero_add]; exact HC.out⟩
  case round =>
    obtain ⟨i, v, hi, rfl, rfl, hv⟩ := hrel
    have HV := hide hv
    have hvb : v ≤ n := by omega
    clear hv
    by_cases hlt : i < n
    · obtain ⟨b, off, ha, _, hc⟩ := HR.out i (by have := HN.out; omega)
      subst ha
      have i0 : (0 : Int) ≤ (i : Int) := by omega
      have i1 : (i : Int) < (n : Int) := by omega
      obtain ⟨x, hx⟩ : ∃ x, bt D i = x := ⟨_, rfl⟩
      rw [hx] at hc
      have HX := hide hx
      clear hx
      by_cases h13 : x = 13
      · subst h13
        by_cases hi2 : i + 1 < n
        · obtain ⟨b', off', ha', _, hc'⟩ := HR.out (i + 1) (by have := HN.out; omega)
          simp only [Option.some.injEq, Addr.mk.injEq, and_true] at ha'
          obtain ⟨rfl, rfl⟩ := ha'
          have i2 : (0 : Int) ≤ (i : Int) + 1 := by omega
          have i3 : (i : Int) + 1 < (n : Int) := by omega
          obtain ⟨y, hy⟩ : ∃ y, bt D (i + 1) = y := ⟨_, rfl⟩
          rw [hy] at hc'
          have HY := hide hy
          clear hy
          by_cases h10 : y = 10
          · subst h10
            go_wp2
            exact ⟨⟨i + 2, v + 1, by omega, by go_num, by go_num, by have := HV.out; have := cnt_crlf HN.out hi2 HX.out HY.out; omega⟩, by simp [intOf]; omega⟩
          · have h10' : (y == 10) = false := by simpa using h10
            go_wp2
            exact ⟨⟨i + 1, v + 1, by omega, by go_num, by go_num, by have := HV.out; have := cnt_one HN.out hlt (fun h => h10 (HY.out ▸ h.2.2)) (.inr HX.out); omega⟩, by simp [intOf]; omega⟩
        · have i3 : decide ((i : Int) + 1 < (n : Int)) = false := decide_eq_false (by omega)
          go_wp2
          exact ⟨⟨i + 1, v + 1, by omega, by go_num, by go_num, by have := HV.out; have := cnt_one HN.out hlt (fun h => hi2 h.2.1) (.inr HX.out); omega⟩, by simp [intOf]; omega⟩
      · have h13' : (x == 13) = false := by simpa using h13
        by_cases h10 : x = 10
        · subst h10
          go_wp2
          exact ⟨⟨i + 1, v + 1, by omega, by go_num, by go_num, by have := HV.out; have := cnt_one HN.out hlt (fun h => h13 (HX.out ▸ h.1)) (.inl HX.out); omega⟩, by simp [intOf]; omega⟩
        · have h10' : (x == 10) = false := by simpa using h10
          go_wp2
          exact ⟨⟨i + 1, v, by omega, by go_num, by go_num, by have := HV.out; have := cnt_none HN.out hlt (fun h => h10 (HX.out ▸ h)) (fun h => h13 (HX.out ▸ h)); omega⟩, by simp [intOf]; omega⟩
    · obtain rfl : i = n := by omega
      have hC : (v : Int) = (C : Int) := by have := HV.out; rw [HN.out, cnt_last] at this; omega
      go_wp2
      go_ret
      exact ⟨rfl, rfl⟩

set_option maxHeartbeats 400000 in
theorem bytes7_any (w : World) (a : Option Addr) (n c : Nat) (p l : Int) : Calls Try.prog 7 #[.slice a n c, .int .i64 p, .int .i64 l] w fun e w' => e = .returned (.bool (decide (n ≤ 1048576))) ∧ w' = w := by
  by_cases h : (1048576 : Int) < n
  · have h1 : decide (n ≤ 1048576) = false := decide_eq_false (by omega)
    rw [h1]
    clear h1
    go_enter Try.func7, Try.ntmps7
    go_wp2
    go_ret
    exact ⟨rfl, rfl⟩
  · have h1 : decide (n ≤ 1048576) = true := decide_eq_true (by omega)
    rw [h1]
    clear h1
    go_enter Try.func7, Try.ntmps7
    go_wp2
    go_ret
    exact ⟨rfl, rfl⟩

set_option maxHeartbeats 400000 in
theorem bytes13_any (w : World) (a : Option Addr) (n c : Nat) (p l : Int) : Calls Try.prog 13 #[.slice a n c, .int .i64 p, .int .i64 l] w fun e w' => e = .returned (.bool (decide (n ≤ 1048576))) ∧ w' = w := by
  by_cases h : (1048576 : Int) < n
  · have h1 : decide (n ≤ 1048576) = false := decide_eq_false (by omega)
    rw [h1]
    clear h1
    go_enter Try.func13, Try.ntmps13
    go_wp2
    go_ret
    exact ⟨rfl, rfl⟩
  · have h1 : decide (n ≤ 1048576) = true := decide_eq_true (by omega)
    rw [h1]
    clear h1
    go_enter Try.func13, Try.ntmps13
    go_wp2
    go_ret
    exact ⟨rfl, rfl⟩

set_option maxRecDepth 100000 in
set_option maxHeartbeats 1600000 in
theorem bytesEqual_any (w : World) (va vb : Value) (T : List Int) (ha : RowV .u8 w va T) (hb : RowV .u8 w vb T) (hN : T.length ≤ 4000000) :
    Calls Try.prog 11 #[va, vb] w fun e w' => e = .returned (.bool true) ∧ ∃ m, w' = w.drewN m := by
  obtain ⟨a, c, rfl, hra⟩ := ha
  obtain ⟨b, d, rfl, hrb⟩ := hb
  obtain ⟨n, hn⟩ : ∃ n, T.length = n := ⟨_, rfl⟩
  rw [hn] at hN ⊢
  have HN := hide hn
  have HA := hide hra
  have HB := hide hrb
  clear hn hra hrb
  go_enter Try.func11, Try.ntmps11
  go_wp2
  go_loopw [5] (fun t wr => ∃ i : Nat, i ≤ n ∧ t = .int .i64 i ∧ ∃ m, wr = w.drewN m) (fun t _ => n - (intOf t).toNat)
  case atStart => exact ⟨0, Nat.zero_le _, rfl, 0, rfl⟩
  case round =>
    obtain ⟨i, hi, rfl, m, rfl⟩ := hrel
    by_cases hlt : i < n
    · obtain ⟨b1, o1, h1, _, c1⟩ := HA.out i (by have := HN.out; omega)
      obtain ⟨b2, o2, h2, _, c2⟩ := HB.out i (by have := HN.out; omega)
      subst h1 h2
      obtain ⟨x, hx⟩ : ∃ x, bt T i = x := ⟨_, rfl⟩
      rw [hx] at c1 c2
      clear hx
      have i0 : (0 : Int) ≤ (i : Int) := by omega
      have i1 : (i : Int) < (n : Int) := by omega
      go_wp2
      go_quiet (fail)
      go_wp2
      exact ⟨⟨i + 1, by omega, by go_num, _, rfl⟩, by simp [intOf]; omega⟩
    · go_wp2
      go_ret
      exact ⟨rfl, m, rfl⟩

set_option maxRecDepth 100000 in
set_option maxHeartbeats 1600000 in
theorem intsEqual_any (w : World) (va vb : Value) (T : List Int) (ha : RowV .i64 w va T) (hb : RowV .i64 w vb T) (hN : T.length ≤ 4000000) :
    Calls Try.prog 12 #[va, vb] w fun e w' => e = .returned (.bool true) ∧ ∃ m, w' = w.drewN m := by
  obtain ⟨a, c, rfl, hra⟩ := ha
  obtain ⟨b, d, rfl, hrb⟩ := hb
  obtain ⟨n, hn⟩ : ∃ n, T.length = n := ⟨_, rfl⟩
  rw [hn] at hN ⊢
  have HN := hide hn
  have HA := hide hra
  have HB := hide hrb
  clear hn hra hrb
  go_enter Try.func12, Try.ntmps12
  go_wp2
  go_loopw [5] (fun t wr => ∃ i : Nat, i ≤ n ∧ t = .int .i64 i ∧ ∃ m, wr = w.drewN m) (fun t _ => n - (intOf t).toNat)
  case atStart => exact ⟨0, Nat.zero_le _, rfl, 0, rfl⟩
  case round =>
    obtain ⟨i, hi, rfl, m, rfl⟩ := hrel
    by_cases hlt : i < n
    · obtain ⟨b1, o1, h1, _, c1⟩ := HA.out i (by have := HN.out; omega)
      obtain ⟨b2, o2, h2, _, c2⟩ := HB.out i (by have := HN.out; omega)
      subst h1 h2
      obtain ⟨x, hx⟩ : ∃ x, bt T i = x := ⟨_, rfl⟩
      rw [hx] at c1 c2
      clear hx
      have i0 : (0 : Int) ≤ (i : Int) := by omega
      have i1 : (i : Int) < (n : Int) := by omega
      go_wp2
      go_quiet (fail)
      go_wp2
      exact ⟨⟨i + 1, by omega, by go_num, _, rfl⟩, by simp [intOf]; omega⟩
    · go_wp2
      go_ret
      exact ⟨rfl, m, rfl⟩
end Go.Proofs.Qxb6621698a
