/-
  PLAIN: no Go in sight. What 'destination' answers has its shape; a string's head that holds it answers the same; where angle brackets do not close, no head's do.
-/
import Derived.Test.Qxb6601606aDestShift
namespace Go.Proofs.Qxb6601606a.Pl

theorem aF_form (g : Nat → Int) : ∀ (f j : Nat) (x : Bool), aF g f j x = -1 ∨ ∃ m : Nat, j ≤ m ∧ m < j + f ∧ aF g f j x = (m : Int) + 1 ∧ g m = 62 := by
  intro f
  induction f with
  | zero => intro j x; exact Or.inl rfl
  | succ f ih =>
    intro j x
    have i1 : ∀ x, aF g f (j + 1) x = -1 ∨ ∃ m : Nat, j ≤ m ∧ m < j + (f + 1) ∧ aF g f (j + 1) x = (m : Int) + 1 ∧ g m = 62 := by
      intro x
      rcases ih (j + 1) x with h | ⟨m, m1, m2, m3, m4⟩
      · exact Or.inl h
      · exact Or.inr ⟨m, by omega, by omega, m3, m4⟩
    cases x
    · rw [aF]
      by_cases h1 : g j = 62
      · rw [if_pos h1]; exact Or.inr ⟨j, by omega, by omega, rfl, h1⟩
      · rw [if_neg h1]
        by_cases h2 : g j = 92
        · rw [if_pos h2]; exact i1 true
        · rw [if_neg h2]
          by_cases h3 : g j = 10 ∨ g j = 60
          · rw [if_pos h3]; exact Or.inl rfl
          · rw [if_neg h3]; exact i1 false
    · rw [aF]; exact i1 false

theorem pF_form (g : Nat → Int) : ∀ (f j : Nat) (x : Bool) (k : Nat), pF g f j x k = -1 ∨
    ∃ m : Nat, j ≤ m ∧ m ≤ j + f ∧ pF g f j x k = (m : Int) ∧ (m = j + f ∨ m < j + f ∧ (spB (g m) = true ∨ g m = 41)) := by
  intro f
  induction f with
  | zero =>
    intro j x k
    rw [pF]
    by_cases h : k = 0
    · rw [if_pos h]; exact Or.inr ⟨j, by omega, by omega, rfl, Or.inl rfl⟩
    · rw [if_neg h]; exact Or.inl rfl
  | succ f ih =>
    intro j x k
    have i1 : ∀ x k, pF g f (j + 1) x k = -1 ∨ ∃ m : Nat, j ≤ m ∧ m ≤ j + (f + 1) ∧ pF g f (j + 1) x k = (m : Int) ∧ (m = j + (f + 1) ∨ m < j + (f + 1) ∧ (spB (g m) = true ∨ g m = 41)) := by
      intro x k
      rcases ih (j + 1) x k with h | ⟨m, m1, m2, m3, m4 | ⟨m4, m5⟩⟩
      · exact Or.inl h
      · exact Or.inr ⟨m, by omega, by omega, m3, Or.inl (by omega)⟩
      · exact Or.inr ⟨m, by omega, by omega, m3, Or.inr ⟨by omega, m5⟩⟩
    rw [pF]
    by_cases h1 : spB (g j) = true
    · rw [if_pos h1]
      by_cases h : k = 0
      · rw [if_pos h]; exact Or.inr ⟨j, by omega, by omega, rfl, Or.inr ⟨by omega, Or.inl h1⟩⟩
      · rw [if_neg h]; exact Or.inl rfl
    · rw [if_neg h1]
      by_cases h2 : x = true
      · rw [if_pos h2]; exact i1 false k
      · rw [if_neg h2]
        by_cases h3 : g j = 92
        · rw [if_pos h3]; exact i1 true k
        · rw [if_neg h3]
          by_cases h4 : g j = 40
          · rw [if_pos h4]
            by_cases h5 : 32 < k + 1
            · rw [if_pos h5]; exact Or.inl rfl
            · rw [if_neg h5]; exact i1 false (k + 1)
          · rw [if_neg h4]
            by_cases h5 : g j = 41
            · rw [if_pos h5]
              by_cases h6 : k = 0
              · rw [if_pos h6]; exact Or.inr ⟨j, by omega, by omega, rfl, Or.inr ⟨by omega, Or.inr h5⟩⟩
              · rw [if_neg h6]; exact i1 false (k - 1)
            · rw [if_neg h5]; exact i1 false k

/-- the shape of an answer -/
def DForm (g : Nat → Int) (n i : Nat) (r : Int) : Prop :=
  r = -1 ∨ (i < n ∧ g i = 60 ∧ ∃ m : Nat, i < m ∧ m < n ∧ r = (m : Int) + 1 ∧ g m = 62) ∨
  (¬ (i < n ∧ g i = 60) ∧ ∃ m : Nat, i ≤ m ∧ r = (m : Int) ∧ (m = n ∨ m < n ∧ (spB (g m) = true ∨ g m = 41)))

theorem dest_form (g : Nat → Int) (n i : Nat) (hi : i ≤ n) : DForm g n i (dest g n i) := by
  unfold DForm dest
  by_cases h : i < n ∧ g i = 60
  · rw [if_pos h]
    rcases aF_form g (n - (i + 1)) (i + 1) false with e | ⟨m, m1, m2, m3, m4⟩
    · exact Or.inl e
    · exact Or.inr (Or.inl ⟨h.1, h.2, m, by omega, by omega, m3, m4⟩)
  · rw [if_neg h]
    rcases pF_form g (n - i) i false 0 with e | ⟨m, m1, m2, m3, m4 | ⟨m4, m5⟩⟩
    · exact Or.inl e
    · exact Or.inr (Or.inr ⟨h, m, m1, m3, Or.inl (by omega)⟩)
    · exact Or.inr (Or.inr ⟨h, m, m1, m3, Or.inr ⟨by omega, m5⟩⟩)

theorem aF_prefix (g : Nat → Int) (m : Nat) : ∀ (f j : Nat) (x : Bool), j ≤ m → m ≤ j + f → aF g f j x ≤ m → aF g (m - j) j x = aF g f j x := by
  intro f
  induction f with
  | zero => intro j x h1 h2 _; rw [show m - j = 0 from by omega]
  | succ f ih =>
    intro j x h1 h2 h3
    by_cases hm : j = m
    · rcases aF_bd g (f + 1) j x with h | ⟨h, _⟩
      · rw [h, aF_end g m j x (by omega)]
      · omega
    · have i1 := fun x => ih (j + 1) x (by omega) (by omega)
      cases x
      · rw [aF] at h3
        rw [aF_step g m j (by omega), aF]
        by_cases c1 : g j = 62
        · rw [if_pos c1, if_pos c1]
        · rw [if_neg c1] at h3 ⊢; rw [if_neg c1]
          by_cases c2 : g j = 92
          · rw [if_pos c2] at h3 ⊢; rw [if_pos c2]; exact i1 true h3
          · rw [if_neg c2] at h3 ⊢; rw [if_neg c2]
            by_cases c3 : g j = 10 ∨ g j = 60
            · rw [if_pos c3, if_pos c3]
            · rw [if_neg c3] at h3 ⊢; rw [if_neg c3]; exact i1 false h3
      · rw [aF] at h3
        rw [aF_skip g m j (by omega), aF]
        exact i1 false h3

theorem pF_here (g : Nat → Int) (f j : Nat) (x : Bool) (k : Nat) (h : pF g f j x k = (j : Int)) : k = 0 := by
  by_cases hk : k = 0
  · exact hk
  · exfalso
    cases f with
    | zero => rw [pF, if_neg hk] at h; omega
    | succ f =>
      have i1 : ∀ x k, pF g f (j + 1) x k ≠ (j : Int) := by
        intro x k
        have := pF_bd g f (j + 1) x k
        omega
      rw [pF, if_neg hk, if_neg hk] at h
      by_cases h1 : spB (g j) = true
      · rw [if_pos h1] at h; omega
      · rw [if_neg h1] at h
        by_cases h2 : x = true
        · rw [if_pos h2] at h; exact i1 _ _ h
        · rw [if_neg h2] at h
          by_cases h3 : g j = 92
          · rw [if_pos h3] at h; exact i1 _ _ h
          · rw [if_neg h3] at h
            by_cases h4 : g j = 40
            · rw [if_pos h4] at h
              by_cases h5 : 32 < k + 1
              · rw [if_pos h5] at h; omega
              · rw [if_neg h5] at h; exact i1 _ _ h
            · rw [if_neg h4] at h
              by_cases h5 : g j = 41
              · rw [if_pos h5] at h; exact i1 _ _ h
              · rw [if_neg h5] at h; exact i1 _ _ h

theorem pF_prefix (g : Nat → Int) (m : Nat) : ∀ (f j : Nat) (x : Bool) (k : Nat), j ≤ m → m ≤ j + f → 0 ≤ pF g f j x k → pF g f j x k ≤ m →
    pF g (m - j) j x k = pF g f j x k := by
  intro f
  induction f with
  | zero => intro j x k h1 h2 _ _; rw [show m - j = 0 from by omega]
  | succ f ih =>
    intro j x k h1 h2 h0 h3
    by_cases hm : j = m
    · have e : pF g (f + 1) j x k = (j : Int) := by have := pF_bd g (f + 1) j x k; omega
      rw [e, pF_end g m j x k (by omega), if_pos (pF_here g _ _ _ _ e)]
    · have i1 := fun x k => ih (j + 1) x k (by omega) (by omega)
      rw [pF] at h0 h3
      rw [pF_step g m j x k (by omega), pF]
      by_cases c1 : spB (g j) = true
      · rw [if_pos c1, if_pos c1]
      · rw [if_neg c1] at h0 h3 ⊢; rw [if_neg c1]
        by_cases c2 : x = true
        · rw [if_pos c2] at h0 h3 ⊢; rw [if_pos c2]; exact i1 _ _ h0 h3
        · rw [if_neg c2] at h0 h3 ⊢; rw [if_neg c2]
          by_cases c3 : g j = 92
          · rw [if_pos c3] at h0 h3 ⊢; rw [if_pos c3]; exact i1 _ _ h0 h3
          · rw [if_neg c3] at h0 h3 ⊢; rw [if_neg c3]
            by_cases c4 : g j = 40
            · rw [if_pos c4] at h0 h3 ⊢; rw [if_pos c4]
              by_cases c5 : 32 < k + 1
              · rw [if_pos c5, if_pos c5]
              · rw [if_neg c5] at h0 h3 ⊢; rw [if_neg c5]; exact i1 _ _ h0 h3
            · rw [if_neg c4] at h0 h3 ⊢; rw [if_neg c4]
              by_cases c5 : g j = 41
              · rw [if_pos c5] at h0 h3 ⊢; rw [if_pos c5]
                by_cases c6 : k = 0
                · rw [if_pos c6, if_pos c6]
                · rw [if_neg c6] at h0 h3 ⊢; rw [if_neg c6]; exact i1 _ _ h0 h3
              · rw [if_neg c5] at h0 h3 ⊢; rw [if_neg c5]; exact i1 _ _ h0 h3

theorem dest_prefix (g : Nat → Int) (n m i : Nat) (him : i ≤ m) (hmn : m ≤ n) (h0 : 0 ≤ dest g n i) (h : dest g n i ≤ m) : dest g m i = dest g n i := by
  by_cases hc : i < n ∧ g i = 60
  · have e : dest g n i = aF g (n - (i + 1)) (i + 1) false := by rw [dest, if_pos hc]
    rw [e] at h0 h
    have b := aF_bd g (n - (i + 1)) (i + 1) false
    rw [e, dest, if_pos ⟨by omega, hc.2⟩]
    exact aF_prefix g m _ _ _ (by omega) (by omega) h
  · have e : dest g n i = pF g (n - i) i false 0 := by rw [dest, if_neg hc]
    rw [e] at h0 h
    rw [e, dest, if_neg (fun q => hc ⟨by omega, q.2⟩)]
    exact pF_prefix g m _ _ _ _ him (by omega) h0 h

theorem dest_none (g : Nat → Int) (n m i : Nat) (him : i < m) (hmn : m ≤ n) (hg : g i = 60) (h : dest g n i = -1) : dest g m i = -1 := by
  have e : dest g n i = aF g (n - (i + 1)) (i + 1) false := by rw [dest, if_pos ⟨by omega, hg⟩]
  rw [e] at h
  rw [dest, if_pos ⟨him, hg⟩, aF_prefix g m (n - (i + 1)) (i + 1) false (by omega) (by omega) (by omega), h]

theorem dest_congr (g g' : Nat → Int) (n i : Nat) (hi : i ≤ n) (hg : ∀ j, j < n → g' j = g j) : dest g' n i = dest g n i := by
  have h := dest_shift g g' 0 n i hi (fun j hj => by rw [Nat.zero_add]; exact hg j hj)
  have b := dest_bd g n i hi
  rw [Nat.zero_add, Nat.zero_add] at h
  rw [h, sh]
  by_cases h0 : dest g n i < 0
  · rw [if_pos h0]; omega
  · rw [if_neg h0]; omega

end Go.Proofs.Qxb6601606a.Pl
