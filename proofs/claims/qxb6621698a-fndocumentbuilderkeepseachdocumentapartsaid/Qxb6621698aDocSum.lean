/-
  The bounds: zzBytes_.. of the two laws on the builder, and zzSumEntryBytes, walked.
-/
import Derived.Test.Qxb6621698aDocAll
namespace Go.Proofs.Qxb6621698a
open Go.RowKit

/-- Each string of the list is short. -/
def Small (es : List Ent) (k : Nat) : Prop := ∀ i, i < k → (ent es i).1.size ≤ 1048576 ∧ (ent es i).2.1.size ≤ 1048576

theorem Small.next {es : List Ent} {k : Nat} (h : Hid (Small es k)) : Hid ((ent es k).1.size ≤ 1048576 → (ent es k).2.1.size ≤ 1048576 → Small es (k + 1)) := fun h1 h2 i hi => by
  by_cases h' : i < k
  · exact h.out i h'
  · obtain rfl : i = k := by omega
    exact ⟨h1, h2⟩

def Short (es : List Ent) (n : Nat) : Prop := n ≤ 1048576 ∧ Small es n

/-- What a bound's function answers. -/
def BytesR (p : Prop) (w : World) (e : Ending) (w' : World) : Prop := ∃ x, e = .returned (.bool x) ∧ (x = true → p) ∧ w' = w

/-- The cells of the entries of a slice at address a. -/
def ZCells (w : World) (a : Option Addr) (es : List Ent) (n : Nat) : Prop := ∀ i, i < n → ∃ b off, a = some ⟨b, off, none⟩ ∧ w.cell? ⟨b, off + i * 3, none⟩ = some (.string (ent es i).1) ∧ w.cell? ⟨b, off + i * 3 + 1, none⟩ = some (.string (ent es i).2.1) ∧ w.cell? ⟨b, off + i * 3 + 2, none⟩ = some (.int .i64 (ent es i).2.2)

theorem ZRow.cells {w : World} {B : Nat} {v : Value} {es : List Ent} (h : ZRow w B v es) : ∃ a c, v = .slice a es.length c ∧ Hid (ZCells w a es es.length) := by
  rcases h with ⟨rfl, a, c, rfl⟩ | ⟨b, off, c, rfl, _, hc⟩
  · exact ⟨a, c, rfl, fun i hi => by simp at hi⟩
  · exact ⟨_, c, rfl, fun i hi => ⟨b, off, rfl, hc i hi⟩⟩

set_option maxRecDepth 100000 in
set_option maxHeartbeats 1600000 in
theorem bytes_one (w : World) (es : List Ent) (a : Option Addr) (n c : Nat) (hc : Hid (ZCells w a es n)) :
    Calls Try.prog 15 #[.slice a n c] w fun e w' => BytesR (Short es n) w e w' := by
  by_cases hn : (1048576 : Int) < n
  · go_enter Try.func15, Try.ntmps15
    go_wp2
    go_ret
    exact ⟨false, rfl, (fun h => by cases h), rfl⟩
  · have hn' : n ≤ 1048576 := by omega
    go_enter Try.func15, Try.ntmps15
    go_wp2
    go_loop [3, 4] (fun z i => ∃ k : Nat, k ≤ n ∧ i = .int .i64 k ∧ Small es k ∧ ∃ q : Nat, z = .int .i64 q ∧ q ≤ 1048576) (fun _ i => n - (intOf i).toNat)
    case atStart => exact ⟨0, Nat.zero_le _, rfl, fun i hi => by omega, n, rfl, hn'⟩
    case round =>
      obtain ⟨k, hk, rfl, hsm, q, rfl, hq⟩ := hrel
      have HS := hide hsm
      clear hsm
      by_cases hlt : k < n
      · obtain ⟨b, off, ha, c0, c1, c2⟩ := hc.out k hlt
        subst ha
        have HSN := Small.next HS
        have k0 : (0 : Int) ≤ (k : Int) := by omega
        have k1 : (k : Int) < (n : Int) := by omega
        go_wp2
        · go_ret; exact ⟨false, rfl, (fun h => by cases h), rfl⟩
        · go_ret; exact ⟨false, rfl, (fun h => by cases h), rfl⟩
        · go_ret; exact ⟨false, rfl, (fun h => by cases h), rfl⟩
        · go_ret; exact ⟨false, rfl, (fun h => by cases h), rfl⟩
        · exact ⟨⟨k + 1, by omega, by go_num, HSN.out (by omega) (by omega), q + (ent es k).1.size + (ent es k).2.1.size, by go_num, by omega⟩, by simp [intOf]; omega⟩
      · obtain rfl : k = n := by omega
        go_wp2
        go_ret
        exact ⟨true, rfl, (fun _ => ⟨hn', HS.out⟩), rfl⟩

set_option maxRecDepth 100000 in
set_option maxHeartbeats 3200000 in
theorem bytes_two (w : World) (es fs : List Ent) (a a' : Option Addr) (n c n' c' : Nat) (hc : Hid (ZCells w a es n)) (hc' : Hid (ZCells w a' fs n')) :
    Calls Try.prog 21 #[.slice a n c, .slice a' n' c'] w fun e w' => BytesR (Short es n ∧ Short fs n') w e w' := by
  by_cases hn : (1048576 : Int) < n
  · go_enter Try.func21, Try.ntmps21
    go_wp2
    go_ret
    exact ⟨false, rfl, (fun h => by cases h), rfl⟩
  · have hnn : n ≤ 1048576 := by omega
    go_enter Try.func21, Try.ntmps21
    go_wp2
    go_loop [5, 6] (fun z i => ∃ k : Nat, k ≤ n ∧ i = .int .i64 k ∧ Small es k ∧ ∃ q : Nat, z = .int .i64 q ∧ q ≤ 1048576) (fun _ i => n - (intOf i).toNat)
    case atStart => exact ⟨0, Nat.zero_le _, rfl, fun i hi => by omega, n, rfl, hnn⟩
    case round =>
      obtain ⟨k, hk, rfl, hsm, q, rfl, hq⟩ := hrel
      have HS := hide hsm
      clear hsm
      by_cases hlt : k < n
      · obtain ⟨b, off, ha, c0, c1, c2⟩ := hc.out k hlt
        subst ha
        have HSN := Small.next HS
        have k0 : (0 : Int) ≤ (k : Int) := by omega
        have k1 : (k : Int) < (n : Int) := by omega
        go_wp2
        · go_ret; exact ⟨false, rfl, (fun h => by cases h), rfl⟩
        · go_ret; exact ⟨false, rfl, (fun h => by cases h), rfl⟩
        · go_ret; exact ⟨false, rfl, (fun h => by cases h), rfl⟩
        · go_ret; exact ⟨false, rfl, (fun h => by cases h), rfl⟩
        · exact ⟨⟨k + 1, by omega, by go_num, HSN.out (by omega) (by omega), q + (ent es k).1.size + (ent es k).2.1.size, by go_num, by omega⟩, by simp [intOf]; omega⟩
      · obtain rfl : k = n := by omega
        have HSH : Hid (Short es k) := ⟨hnn, HS.out⟩
        clear HS hlt
        by_cases hn2 : (1048576 : Int) < n'
        · go_wp2
          go_ret
          exact ⟨false, rfl, (fun h => by cases h), rfl⟩
        · have hnn' : n' ≤ 1048576 := by omega
          by_cases hs2 : (1048576 : Int) < q + n'
          · go_wp2
            go_ret
            exact ⟨false, rfl, (fun h => by cases h), rfl⟩
          · go_wp2
            go_loop [5, 7] (fun z i => ∃ k : Nat, k ≤ n' ∧ i = .int .i64 k ∧ Small fs k ∧ ∃ q : Nat, z = .int .i64 q ∧ q ≤ 1048576) (fun _ i => n' - (intOf i).toNat)
            case atStart => exact ⟨0, Nat.zero_le _, rfl, fun i hi => by omega, q + n', by go_num, by omega⟩
            case round =>
              obtain ⟨j, hj, rfl, hsm, p, rfl, hp⟩ := hrel
              have HS := hide hsm
              clear hsm
              by_cases hlt : j < n'
              · obtain ⟨b, off, ha, c0, c1, c2⟩ := hc'.out j hlt
                subst ha
                have HSN := Small.next HS
                have k0 : (0 : Int) ≤ (j : Int) := by omega
                have k1 : (j : Int) < (n' : Int) := by omega
                go_wp2
                · go_ret; exact ⟨false, rfl, (fun h => by cases h), rfl⟩
                · go_ret; exact ⟨false, rfl, (fun h => by cases h), rfl⟩
                · go_ret; exact ⟨false, rfl, (fun h => by cases h), rfl⟩
                · go_ret; exact ⟨false, rfl, (fun h => by cases h), rfl⟩
                · exact ⟨⟨j + 1, by omega, by go_num, HSN.out (by omega) (by omega), p + (ent fs j).1.size + (ent fs j).2.1.size, by go_num, by omega⟩, by simp [intOf]; omega⟩
              · obtain rfl : j = n' := by omega
                go_wp2
                go_ret
                exact ⟨true, rfl, (fun _ => ⟨HSH.out, hnn', HS.out⟩), rfl⟩

theorem ret_int {k : IntKind} {a b : Int} (h : a = b) : Ending.returned (.int k a) = .returned (.int k b) := by rw [h]

/-- What zzSumEntryBytes gives: at least 40 an entry, unless it is past the bound. -/
def SumR (t n : Nat) (w : World) (e : Ending) (w' : World) : Prop := ∃ r : Nat, e = .returned (.int .i64 r) ∧ (r ≤ 1048576 → t + 40 * n ≤ r) ∧ ∃ m, w' = w.drewN m

set_option maxRecDepth 100000 in
set_option maxHeartbeats 1600000 in
theorem sum_any (w : World) (es : List Ent) (a : Option Addr) (n c t : Nat) (ht : t ≤ 1048576) (hc : Hid (ZCells w a es n)) (hsm : Hid (Short es n)) :
    Calls Try.prog 16 #[.int .i64 t, .slice a n c] w fun e w' => SumR t n w e w' := by
  have hn : n ≤ 1048576 := hsm.out.1
  go_enter Try.func16, Try.ntmps16
  go_wp2
  go_loopw [0, 5] (fun z i wr => ∃ k : Nat, k ≤ n ∧ i = .int .i64 k ∧ ∃ q : Nat, z = .int .i64 q ∧ q ≤ 1048576 ∧ t + 40 * k ≤ q ∧ ∃ m, wr = w.drewN m) (fun _ i _ => n - (intOf i).toNat)
  case atStart => exact ⟨0, Nat.zero_le _, rfl, t, rfl, ht, by omega, 0, rfl⟩
  case round =>
    obtain ⟨k, hk, rfl, q, rfl, hq, hq2, m, rfl⟩ := hrel
    by_cases hlt : k < n
    · obtain ⟨b, off, ha, c0, c1, c2⟩ := hc.out k hlt
      subst ha
      obtain ⟨s1, s2⟩ := hsm.out.2 k hlt
      have k0 : (0 : Int) ≤ (k : Int) := by omega
      have k1 : (k : Int) < (n : Int) := by omega
      go_wp2
      go_quiet (fail)
      go_wp2
      · go_ret
        exact ⟨q + (40 + (ent es k).1.size + (ent es k).2.1.size), ret_int (by omega), fun h => by omega, _, rfl⟩
      · exact ⟨⟨k + 1, by omega, by go_num, q + (40 + (ent es k).1.size + (ent es k).2.1.size), by go_num, by omega, by omega, _, rfl⟩, by simp [intOf]; omega⟩
    · obtain rfl : k = n := by omega
      go_wp2
      go_ret
      exact ⟨q, rfl, fun _ => hq2, m, rfl⟩
end Go.Proofs.Qxb6621698a
