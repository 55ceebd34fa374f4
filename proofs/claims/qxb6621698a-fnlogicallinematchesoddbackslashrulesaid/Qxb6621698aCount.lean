/-
  PLAIN: the line ends of the input, and what the machine counts and keeps.
-/
import Derived.Test.Qxb6621698aLine
namespace Go.Proofs.Qxb6621698a

def cntF (D : List Int) : Nat → Nat → Nat
  | 0, _ => 0
  | f + 1, i => if i < D.length then (if isEnd D i = true then 1 + cntF D f (skipE D i) else cntF D f (i + 1)) else 0
/-- The line ends from i on. -/
def cnt (D : List Int) (i : Nat) : Nat := cntF D (D.length - i) i

theorem cntF_same (D : List Int) : ∀ f g i, D.length - i ≤ f → D.length - i ≤ g → cntF D f i = cntF D g i
  | 0, 0, _, _, _ => rfl
  | 0, g + 1, i, h, _ => by rw [cntF, cntF, if_neg (by omega)]
  | f + 1, 0, i, _, h => by rw [cntF, cntF, if_neg (by omega)]
  | f + 1, g + 1, i, h, h' => by
    rw [cntF, cntF]
    split
    · rename_i hi
      have := skipE_gt D i hi
      split
      · rw [cntF_same D f g (skipE D i) (by omega) (by omega)]
      · exact cntF_same D f g (i + 1) (by omega) (by omega)
    · rfl

theorem cnt_end (D : List Int) (i : Nat) (hi : i < D.length) (he : isEnd D i = true) : cnt D i = 1 + cnt D (skipE D i) := by
  unfold cnt
  have := skipE_gt D i hi
  rw [show D.length - i = (D.length - i - 1) + 1 by omega, cntF, if_pos hi, if_pos he, cntF_same D _ (D.length - skipE D i) (skipE D i) (by omega) (Nat.le_refl _)]
theorem cnt_plain (D : List Int) (i : Nat) (hi : i < D.length) (he : isEnd D i = false) : cnt D i = cnt D (i + 1) := by
  unfold cnt
  rw [show D.length - i = (D.length - (i + 1)) + 1 by omega, cntF, if_pos hi, if_neg (by simp [he])]
theorem cnt_last (D : List Int) : cnt D D.length = 0 := by simp [cnt, cntF]

theorem isBl_end (D : List Int) (i : Nat) (hi : i < D.length) (h : isBl (bt D i) = true) : isEnd D i = false := by
  simp only [isBl, Bool.or_eq_true, beq_iff_eq] at h
  have : ¬ i = D.length := by omega
  rcases h with (h | h) | h <;> simp [isEnd, h, this]

theorem cnt_skipB (D : List Int) : ∀ f i, cnt D (skipB D f i) = cnt D i
  | 0, _ => rfl
  | f + 1, i => by
    rw [skipB]
    split
    · rename_i h
      rw [cnt_skipB D f (i + 1), cnt_plain D i h.1 (isBl_end D i h.1 h.2)]
    · rfl
theorem cnt_blk (D : List Int) (i : Nat) : cnt D (blk D i) = cnt D i := cnt_skipB D _ i

/-- What stood before place j of the joins. -/
def prevOf (J : List Int) (j : Nat) : Int := if j = 0 then 0 else bt J (j - 1)
/-- Joins in order, within a text of length n. -/
def Good (J : List Int) (n : Nat) : Prop := ∀ j, j < J.length → prevOf J j ≤ bt J j ∧ bt J j ≤ n

theorem bt_left (J K : List Int) (j : Nat) (h : j < J.length) : bt (J ++ K) j = bt J j := by
  unfold bt
  rw [List.getD_eq_getElem?_getD, List.getD_eq_getElem?_getD, List.getElem?_append_left h]
theorem bt_new (J : List Int) (x : Int) : bt (J ++ [x]) J.length = x := by simp [bt]

theorem Good.mono {J : List Int} {n m : Nat} (h : Good J n) (hnm : n ≤ m) : Good J m := fun j hj => ⟨(h j hj).1, by have := (h j hj).2; omega⟩
theorem Good.snoc {J : List Int} {n : Nat} (h : Good J n) : Good (J ++ [(n : Int)]) n := fun j hj => by
  rw [List.length_append, List.length_singleton] at hj
  by_cases hj' : j < J.length
  · have h1 := h j hj'
    have h2 : prevOf (J ++ [(n : Int)]) j = prevOf J j := by
      unfold prevOf
      by_cases h0 : j = 0
      · rw [if_pos h0, if_pos h0]
      · rw [if_neg h0, if_neg h0, bt_left J _ (j - 1) (by omega)]
    rw [h2, bt_left J _ j hj']
    exact h1
  · obtain rfl : j = J.length := by omega
    rw [bt_new]
    refine ⟨?_, by omega⟩
    unfold prevOf
    by_cases h0 : J.length = 0
    · rw [if_pos h0]; omega
    · rw [if_neg h0, bt_left J _ _ (by omega)]
      exact (h (J.length - 1) (by omega)).2
theorem Good.nil (n : Nat) : Good [] n := fun j hj => by simp at hj

/-- What holds of every end that the machine comes to. -/
structure Fine (D : List Int) (p : Nat) (T J : List Int) (c : Nat) (r : List Int × List Int × Nat × Nat) : Prop where
  pos : p ≤ r.2.2.1
  ahead : p < D.length → p < r.2.2.1
  within : r.2.2.1 ≤ D.length
  text : r.1.length + p ≤ T.length + r.2.2.1
  joins : Good J T.length → Good r.2.1 r.1.length
  lines : r.2.2.2 + J.length = c + r.2.1.length ∨ r.2.2.2 + J.length = c + r.2.1.length + 1
  count : cnt D p + c = cnt D r.2.2.1 + r.2.2.2
  more : r.2.2.1 < D.length → c < r.2.2.2
  up : c ≤ r.2.2.2
  few : r.2.2.2 + p ≤ c + r.2.2.1

theorem mach_fine (D : List Int) : ∀ f p T J c r, p ≤ D.length → mach D f p T J c = some r → Fine D p T J c r
  | 0, p, T, J, c, r, _, h => by simp [mach] at h
  | f + 1, p, T, J, c, r, hp, h => by
    rw [mach] at h
    split at h
    · rename_i he
      simp only [Option.some.injEq] at h
      subst h
      by_cases hl : p = D.length
      · subst hl
        rw [skipE_last]
        simp only [incE, if_true]
        exact ⟨Nat.le_refl _, fun h => absurd h (Nat.lt_irrefl _), Nat.le_refl _, Nat.le_refl _, fun h => h, .inl rfl, rfl, fun h => absurd h (Nat.lt_irrefl _), Nat.le_refl _, Nat.le_refl _⟩
      · have h1 := skipE_gt D p (by omega)
        have h2 := cnt_end D p (by omega) he
        have h3 := skipE_le D p hp
        have hi : incE D p = 1 := by rw [incE, if_neg hl]
        rw [hi]
        exact ⟨Nat.le_of_lt h1, fun _ => h1, h3, by simp only []; omega, fun h => h, .inr (by simp only []; omega), by simp only []; omega, fun _ => by simp only []; omega, by simp only []; omega, by simp only []; omega⟩
    · rename_i he
      have he' : isEnd D p = false := by simpa using he
      have hlt := isEnd_lt he' hp
      have hc0 := cnt_plain D p hlt he'
      split at h
      · have F := mach_fine D f (p + 1) (T ++ [bt D p]) J c r (by omega) h
        have h4 := F.pos; have h5 := F.text; have h6 := F.count; have h7 := F.few
        rw [List.length_append, List.length_singleton] at h5
        exact ⟨by omega, fun _ => by omega, F.within, by omega, fun g => F.joins (g.mono (by simp)), F.lines, by omega, F.more, F.up, by omega⟩
      · split at h
        · rename_i he2
          split at h
          · rename_i hl2
            have h1 := skipE_gt D (p + 1) hl2
            have h2 := cnt_end D (p + 1) hl2 he2
            have h3 := skipE_le D (p + 1) (by omega)
            have h4 := blk_ge D (skipE D (p + 1))
            have h5 := blk_le D (skipE D (p + 1)) h3
            have h6 := cnt_blk D (skipE D (p + 1))
            have F := mach_fine D f _ T (J ++ [(T.length : Int)]) (c + 1) r h5 h
            have g1 := F.pos; have g2 := F.text; have g3 := F.count; have g4 := F.up; have g5 := F.lines; have g6 := F.few
            rw [List.length_append, List.length_singleton] at g5
            exact ⟨by omega, fun _ => by omega, F.within, by omega, fun g => F.joins g.snoc, by omega, by omega, fun _ => by omega, by omega, by omega⟩
          · have F := mach_fine D f (p + 1) T J c r (by omega) h
            have g1 := F.pos; have g2 := F.text; have g3 := F.count; have g4 := F.few
            exact ⟨by omega, fun _ => by omega, F.within, by omega, F.joins, F.lines, by omega, F.more, F.up, by omega⟩
        · rename_i he2
          have he2' : isEnd D (p + 1) = false := by simpa using he2
          have hlt2 := isEnd_lt he2' (by omega)
          have hc1 : cnt D (p + 1) = cnt D (p + 2) := cnt_plain D (p + 1) hlt2 he2'
          have F := mach_fine D f (p + 2) (T ++ [92, bt D (p + 1)]) J c r (by omega) h
          have h4 := F.pos; have h5 := F.text; have h6 := F.count; have h7 := F.few
          rw [List.length_append] at h5
          simp only [List.length_cons, List.length_nil] at h5
          exact ⟨by omega, fun _ => by omega, F.within, by omega, fun g => F.joins (g.mono (by simp)), F.lines, by omega, F.more, F.up, by omega⟩

theorem Runs.fine {D : List Int} {p : Nat} {T J : List Int} {c : Nat} {r : List Int × List Int × Nat × Nat} (h : Runs D p T J c r) (hp : p ≤ D.length) : Fine D p T J c r := by
  obtain ⟨f, hf⟩ := h
  exact mach_fine D f p T J c r hp hf

end Go.Proofs.Qxb6621698a
