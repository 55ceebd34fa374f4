/-
  PLAIN: the logical line as a machine over a list of bytes: what it comes to, that it comes to one thing alone, what a physical line does to it, what it counts. No Go in sight.
-/
import GoSem.Claims
namespace Go.Proofs.Qxb6621698a

def bt (D : List Int) (i : Nat) : Int := D.getD i 0
def isBl (c : Int) : Bool := c == 32 || c == 9 || c == 12
def isEnd (D : List Int) (i : Nat) : Bool := i == D.length || bt D i == 10 || bt D i == 13
def skipE (D : List Int) (i : Nat) : Nat := if i = D.length then i else if bt D i = 13 ∧ i + 1 < D.length ∧ bt D (i + 1) = 10 then i + 2 else i + 1
def incE (D : List Int) (i : Nat) : Nat := if i = D.length then 0 else 1
def skipB (D : List Int) : Nat → Nat → Nat
  | 0, i => i
  | f + 1, i => if i < D.length ∧ isBl (bt D i) = true then skipB D f (i + 1) else i
def blk (D : List Int) (i : Nat) : Nat := skipB D (D.length - i) i

theorem blk_step (D : List Int) (i : Nat) (h : i < D.length) (hb : isBl (bt D i) = true) : blk D i = blk D (i + 1) := by
  unfold blk
  rw [show D.length - i = (D.length - (i + 1)) + 1 by omega, skipB, if_pos ⟨h, hb⟩]
theorem blk_stop (D : List Int) (i : Nat) (h : ¬ (i < D.length ∧ isBl (bt D i) = true)) : blk D i = i := by
  unfold blk
  cases D.length - i with
  | zero => rfl
  | succ f => rw [skipB, if_neg h]
theorem skipB_ge (D : List Int) : ∀ f i, i ≤ skipB D f i
  | 0, i => Nat.le_refl _
  | f + 1, i => by
    rw [skipB]
    split
    · have := skipB_ge D f (i + 1); omega
    · exact Nat.le_refl _
theorem skipB_le (D : List Int) : ∀ f i, i ≤ D.length → skipB D f i ≤ D.length
  | 0, i, h => h
  | f + 1, i, h => by
    rw [skipB]
    split
    · exact skipB_le D f (i + 1) (by omega)
    · exact h
theorem blk_ge (D : List Int) (i : Nat) : i ≤ blk D i := skipB_ge D _ i
theorem blk_le (D : List Int) (i : Nat) (h : i ≤ D.length) : blk D i ≤ D.length := skipB_le D _ i h

theorem skipE_ge (D : List Int) (i : Nat) : i ≤ skipE D i := by unfold skipE; split <;> (try split) <;> omega
theorem skipE_gt (D : List Int) (i : Nat) (h : i < D.length) : i < skipE D i := by unfold skipE; rw [if_neg (by omega)]; split <;> omega
theorem skipE_le (D : List Int) (i : Nat) (h : i ≤ D.length) : skipE D i ≤ D.length := by unfold skipE; split <;> (try split) <;> omega
theorem skipE_last (D : List Int) : skipE D D.length = D.length := by simp [skipE]

/-- The machine: at position p, with text T, joins J and c line ends behind it. -/
def mach (D : List Int) : Nat → Nat → List Int → List Int → Nat → Option (List Int × List Int × Nat × Nat)
  | 0, _, _, _, _ => none
  | f + 1, p, T, J, c =>
    if isEnd D p = true then some (T, J, skipE D p, c + incE D p)
    else if bt D p ≠ 92 then mach D f (p + 1) (T ++ [bt D p]) J c
    else if isEnd D (p + 1) = true then
      if p + 1 < D.length then mach D f (blk D (skipE D (p + 1))) T (J ++ [(T.length : Int)]) (c + 1)
      else mach D f (p + 1) T J c
    else mach D f (p + 2) (T ++ [92, bt D (p + 1)]) J c

/-- From here the machine comes to r. -/
def Runs (D : List Int) (p : Nat) (T J : List Int) (c : Nat) (r : List Int × List Int × Nat × Nat) : Prop := ∃ f, mach D f p T J c = some r

theorem mach_more (D : List Int) : ∀ f p T J c r, mach D f p T J c = some r → mach D (f + 1) p T J c = some r
  | 0, p, T, J, c, r, h => by simp [mach] at h
  | f + 1, p, T, J, c, r, h => by
    rw [mach] at h ⊢
    split
    · rename_i he; rw [if_pos he] at h; exact h
    · rename_i he; rw [if_neg he] at h
      split
      · rename_i hb; rw [if_pos hb] at h; exact mach_more D f _ _ _ _ _ h
      · rename_i hb; rw [if_neg hb] at h
        split
        · rename_i h2; rw [if_pos h2] at h
          split
          · rename_i h3; rw [if_pos h3] at h; exact mach_more D f _ _ _ _ _ h
          · rename_i h3; rw [if_neg h3] at h; exact mach_more D f _ _ _ _ _ h
        · rename_i h2; rw [if_neg h2] at h; exact mach_more D f _ _ _ _ _ h
theorem mach_plus (D : List Int) (f g p : Nat) (T J : List Int) (c : Nat) (r : List Int × List Int × Nat × Nat) (h : mach D f p T J c = some r) : mach D (f + g) p T J c = some r := by
  induction g with
  | zero => exact h
  | succ g ih => exact mach_more D _ _ _ _ _ _ ih

/-- It comes to one thing alone. -/
theorem Runs.det {D : List Int} {p : Nat} {T J : List Int} {c : Nat} {r r' : List Int × List Int × Nat × Nat} (h : Runs D p T J c r) (h' : Runs D p T J c r') : r = r' := by
  obtain ⟨f, hf⟩ := h
  obtain ⟨g, hg⟩ := h'
  have h1 := mach_plus D f g _ _ _ _ _ hf
  have h2 := mach_plus D g f _ _ _ _ _ hg
  rw [Nat.add_comm, h1] at h2
  exact Option.some.inj h2

/-! ### Its steps -/
theorem Runs.stop (D : List Int) (p : Nat) (T J : List Int) (c : Nat) (h : isEnd D p = true) : Runs D p T J c (T, J, skipE D p, c + incE D p) := ⟨1, by rw [mach, if_pos h]⟩
theorem Runs.plain {D : List Int} {p : Nat} {T J : List Int} {c : Nat} {r : List Int × List Int × Nat × Nat} (h : Runs D (p + 1) (T ++ [bt D p]) J c r) (he : isEnd D p = false) (hb : bt D p ≠ 92) : Runs D p T J c r := by
  obtain ⟨f, hf⟩ := h
  exact ⟨f + 1, by rw [mach, if_neg (by simp [he]), if_pos hb]; exact hf⟩
theorem Runs.join {D : List Int} {p : Nat} {T J : List Int} {c : Nat} {r : List Int × List Int × Nat × Nat} (h : Runs D (blk D (skipE D (p + 1))) T (J ++ [(T.length : Int)]) (c + 1) r) (he : isEnd D p = false) (hb : bt D p = 92) (h1 : isEnd D (p + 1) = true) (h2 : p + 1 < D.length) : Runs D p T J c r := by
  obtain ⟨f, hf⟩ := h
  exact ⟨f + 1, by rw [mach, if_neg (by simp [he]), if_neg (by simp [hb]), if_pos h1, if_pos h2]; exact hf⟩
theorem Runs.drop {D : List Int} {p : Nat} {T J : List Int} {c : Nat} {r : List Int × List Int × Nat × Nat} (h : Runs D (p + 1) T J c r) (he : isEnd D p = false) (hb : bt D p = 92) (h2 : p + 1 = D.length) : Runs D p T J c r := by
  obtain ⟨f, hf⟩ := h
  exact ⟨f + 1, by rw [mach, if_neg (by simp [he]), if_neg (by simp [hb]), if_pos (by simp [isEnd, h2]), if_neg (by omega)]; exact hf⟩
theorem Runs.pair {D : List Int} {p : Nat} {T J : List Int} {c : Nat} {r : List Int × List Int × Nat × Nat} (h : Runs D (p + 2) (T ++ [92, bt D (p + 1)]) J c r) (he : isEnd D p = false) (hb : bt D p = 92) (h1 : isEnd D (p + 1) = false) : Runs D p T J c r := by
  obtain ⟨f, hf⟩ := h
  exact ⟨f + 1, by rw [mach, if_neg (by simp [he]), if_neg (by simp [hb]), if_neg (by simp [h1])]; exact hf⟩

/-! ### Pieces of the input -/
def seg (D : List Int) (p q : Nat) : List Int := (D.drop p).take (q - p)
theorem seg_nil (D : List Int) (p : Nat) : seg D p p = [] := by simp [seg]
theorem seg_snoc (D : List Int) (p q : Nat) (h : p ≤ q) (hq : q < D.length) : seg D p (q + 1) = seg D p q ++ [bt D q] := by
  unfold seg
  rw [show q + 1 - p = (q - p) + 1 by omega, List.take_succ_eq_append_getElem (by rw [List.length_drop]; omega)]
  simp only [List.getElem_drop, bt]
  rw [List.getD_eq_getElem?_getD, List.getElem?_eq_getElem hq]
  simp only [show p + (q - p) = q by omega, Option.getD_some]
theorem seg_len (D : List Int) (p q : Nat) (hq : q ≤ D.length) : (seg D p q).length = q - p := by
  simp [seg]; omega
theorem bt_seg (D : List Int) (p q i : Nat) (hi : p + i < q) : bt (seg D p q) i = bt D (p + i) := by
  unfold bt seg
  rw [List.getD_eq_getElem?_getD, List.getD_eq_getElem?_getD, List.getElem?_take, if_pos (by omega), List.getElem?_drop]
theorem seg_cons (D : List Int) (p q : Nat) (h : p < q) (hq : q ≤ D.length) : seg D p q = bt D p :: seg D (p + 1) q := by
  unfold seg
  rw [List.drop_eq_getElem_cons (by omega), show q - p = (q - (p + 1)) + 1 by omega, List.take_succ_cons]
  simp only [bt]
  rw [List.getD_eq_getElem?_getD, List.getElem?_eq_getElem (by omega)]
  rfl

theorem isEnd_lt {D : List Int} {i : Nat} (h : isEnd D i = false) (hi : i ≤ D.length) : i < D.length := by
  rcases Nat.lt_or_ge i D.length with h' | h'
  · exact h'
  · obtain rfl : i = D.length := by omega
    simp [isEnd] at h

/-- A stretch without a backslash and without a line end is its own text. -/
theorem Runs.stretch {D : List Int} {p q : Nat} {T J : List Int} {c : Nat} {r : List Int × List Int × Nat × Nat} (hpq : p ≤ q) (hq : q ≤ D.length) (h : ∀ i, p ≤ i → i < q → isEnd D i = false ∧ bt D i ≠ 92) (hr : Runs D q (T ++ seg D p q) J c r) : Runs D p T J c r := by
  obtain ⟨n, hn⟩ : ∃ n, n = q - p := ⟨_, rfl⟩
  induction n generalizing p T with
  | zero =>
    obtain rfl : p = q := by omega
    rw [seg_nil, List.append_nil] at hr
    exact hr
  | succ n ih =>
    have h1 := h p (Nat.le_refl _) (by omega)
    refine Runs.plain ?_ h1.1 h1.2
    refine ih (by omega) (fun i hi hi2 => h i (by omega) hi2) ?_ (by omega)
    rw [seg_cons D p q (by omega) hq] at hr
    rw [List.append_assoc]
    exact hr

/-! ### A physical line -/
/-- The stretch from p to e ends in just 'run' backslashes. -/
structure Trail (D : List Int) (p e run : Nat) : Prop where
  le : run ≤ e - p
  all : ∀ k, k < run → bt D (e - 1 - k) = 92
  stop : run < e - p → bt D (e - 1 - run) ≠ 92

theorem Trail.next {D : List Int} {p e run : Nat} (h : Trail D p e run) (hp : p < e) (hb : bt D p ≠ 92) : Trail D (p + 1) e run := by
  have h1 : run ≠ e - p := fun he => by
    have := h.all (e - p - 1) (by omega)
    rw [show e - 1 - (e - p - 1) = p by omega] at this
    exact hb this
  have := h.le
  exact ⟨by omega, h.all, fun h2 => h.stop (by omega)⟩

theorem Trail.pair {D : List Int} {p e run : Nat} (h : Trail D p e run) (hp : p + 1 < e) (hb : bt D p = 92) : ∃ run', Trail D (p + 2) e run' ∧ run' % 2 = run % 2 := by
  have hle := h.le
  by_cases h1 : run ≤ e - p - 2
  · exact ⟨run, ⟨by omega, h.all, fun h2 => h.stop (by omega)⟩, rfl⟩
  · by_cases h2 : run = e - p - 1
    · have := h.stop (by omega)
      rw [show e - 1 - run = p by omega] at this
      exact absurd hb this
    · exact ⟨e - p - 2, ⟨by omega, fun k hk => h.all k (by omega), fun h3 => by omega⟩, by omega⟩

theorem Trail.one {D : List Int} {p run : Nat} (h : Trail D p (p + 1) run) (hb : bt D p = 92) : run = 1 := by
  have := h.le
  by_cases h1 : run = 0
  · subst h1
    have := h.stop (by omega)
    simp at this
    exact absurd hb this
  · omega

theorem Trail.zero {D : List Int} {p run : Nat} (h : Trail D p p run) : run = 0 := by have := h.le; omega

/-- WHAT A PHYSICAL LINE DOES: from p to its end e (no line end between): an even run of backslashes at its end: the logical line ends there; an odd one: the last backslash goes, and the next physical line is joined on. -/
theorem Runs.line {D : List Int} {e : Nat} {J : List Int} {c : Nat} {r : List Int × List Int × Nat × Nat} (he : isEnd D e = true) (hle : e ≤ D.length) : ∀ (n p run : Nat) (T : List Int), n = e - p → p ≤ e → (∀ i, p ≤ i → i < e → isEnd D i = false) → Trail D p e run →
    (run % 2 = 0 → r = (T ++ seg D p e, J, skipE D e, c + incE D e)) →
    (run % 2 = 1 → e = D.length → r = (T ++ seg D p (e - 1), J, skipE D e, c + incE D e)) →
    (run % 2 = 1 → e < D.length → Runs D (blk D (skipE D e)) (T ++ seg D p (e - 1)) (J ++ [((T ++ seg D p (e - 1)).length : Int)]) (c + 1) r) → Runs D p T J c r := by
  intro n
  induction n using Nat.strongRecOn with
  | ind n ih =>
    intro p run T hn hpe hno ht h0 h1 h2
    by_cases hp : p = e
    · subst hp
      rw [h0 (by rw [ht.zero]), seg_nil, List.append_nil]
      exact Runs.stop D p T J c he
    · have hlt : p < e := by omega
      have hep := hno p (Nat.le_refl _) hlt
      by_cases hb : bt D p = 92
      · by_cases hp1 : p + 1 = e
        · subst hp1
          have hr1 := ht.one hb
          subst hr1
          have hs : seg D p (p + 1 - 1) = [] := by rw [show p + 1 - 1 = p by omega, seg_nil]
          by_cases hl : p + 1 = D.length
          · have := h1 rfl hl
            rw [hs, List.append_nil] at this
            refine Runs.drop ?_ hep hb hl
            rw [this]
            exact Runs.stop D (p + 1) T J c he
          · have := h2 rfl (by omega)
            rw [hs, List.append_nil] at this
            exact Runs.join this hep hb he (by omega)
        · have hlt2 : p + 1 < e := by omega
          obtain ⟨run', ht', hpar⟩ := ht.pair hlt2 hb
          have hsg : ∀ q, p + 1 < q → q ≤ D.length → (T ++ [92, bt D (p + 1)]) ++ seg D (p + 2) q = T ++ seg D p q := fun q hq hq2 => by
            rw [seg_cons D p q (by omega) hq2, seg_cons D (p + 1) q hq hq2, hb, List.append_assoc]; rfl
          refine Runs.pair ?_ hep hb (hno (p + 1) (by omega) hlt2)
          refine ih (e - (p + 2)) (by omega) (p + 2) run' _ rfl (by omega) (fun i hi => hno i (by omega)) ht' (fun h => ?_) (fun h hl => ?_) (fun h hl => ?_)
          · rw [hsg e (by omega) hle]; exact h0 (by omega)
          · by_cases hx : e - 1 = p + 1
            · have h3 := ht'.le
              omega
            · rw [hsg (e - 1) (by omega) (by omega)]; exact h1 (by omega) hl
          · by_cases hx : e - 1 = p + 1
            · have h3 := ht'.le
              omega
            · rw [hsg (e - 1) (by omega) (by omega)]; exact h2 (by omega) hl
      · have ht' := ht.next hlt hb
        have hsg : ∀ q, p < q → q ≤ D.length → (T ++ [bt D p]) ++ seg D (p + 1) q = T ++ seg D p q := fun q hq hq2 => by
          rw [seg_cons D p q hq hq2, List.append_assoc]; rfl
        refine Runs.plain ?_ hep hb
        refine ih (e - (p + 1)) (by omega) (p + 1) run _ rfl (by omega) (fun i hi => hno i (by omega)) ht' (fun h => ?_) (fun h hl => ?_) (fun h hl => ?_)
        · rw [hsg e hlt hle]; exact h0 h
        · have h3 := ht'.le
          rw [hsg (e - 1) (by omega) (by omega)]; exact h1 h hl
        · have h3 := ht'.le
          rw [hsg (e - 1) (by omega) (by omega)]; exact h2 h hl

end Go.Proofs.Qxb6621698a
