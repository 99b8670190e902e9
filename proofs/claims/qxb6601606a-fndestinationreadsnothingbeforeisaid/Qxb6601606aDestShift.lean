/-
  PLAIN: no Go in sight. A string put ahead shifts what 'destination' answers; its bounds.
-/
import Derived.Test.Qxb6601606aDestPlain
namespace Go.Proofs.Qxb6601606a.Pl

theorem sh_nat (d j : Nat) : sh d (j : Int) = ((d + j : Nat) : Int) := by
  rw [sh, if_neg (by omega)]; omega
theorem sh_succ (d j : Nat) : sh d ((j : Int) + 1) = ((d + j : Nat) : Int) + 1 := by
  rw [sh, if_neg (by omega)]; omega
theorem sh_neg (d : Nat) : sh d (-1) = -1 := rfl

theorem aF_shift (g g' : Nat → Int) (d n : Nat) (hg : ∀ j, j < n → g' (d + j) = g j) :
    ∀ (f j : Nat) (x : Bool), j + f ≤ n → aF g' f (d + j) x = sh d (aF g f j x) := by
  intro f
  induction f with
  | zero => intro j x _; rfl
  | succ f ih =>
    intro j x hn
    have i1 := fun x => ih (j + 1) x (by omega)
    have e1 : g' (d + j) = g j := hg j (by omega)
    cases x
    · rw [aF, aF, e1]
      by_cases h1 : g j = 62
      · rw [if_pos h1, if_pos h1, sh_succ]
      · rw [if_neg h1, if_neg h1]
        by_cases h2 : g j = 92
        · rw [if_pos h2, if_pos h2]; exact i1 true
        · rw [if_neg h2, if_neg h2]
          by_cases h3 : g j = 10 ∨ g j = 60
          · rw [if_pos h3, if_pos h3]; rfl
          · rw [if_neg h3, if_neg h3]; exact i1 false
    · rw [aF, aF]; exact i1 false

theorem pF_shift (g g' : Nat → Int) (d n : Nat) (hg : ∀ j, j < n → g' (d + j) = g j) :
    ∀ (f j : Nat) (x : Bool) (k : Nat), j + f ≤ n → pF g' f (d + j) x k = sh d (pF g f j x k) := by
  intro f
  induction f with
  | zero =>
    intro j x k _
    rw [pF, pF]
    by_cases h : k = 0
    · rw [if_pos h, if_pos h, sh_nat]
    · rw [if_neg h, if_neg h]; rfl
  | succ f ih =>
    intro j x k hn
    have i1 := fun x k => ih (j + 1) x k (by omega)
    have e1 : g' (d + j) = g j := hg j (by omega)
    rw [pF, pF, e1]
    by_cases h1 : spB (g j) = true
    · rw [if_pos h1, if_pos h1]
      by_cases h : k = 0
      · rw [if_pos h, if_pos h, sh_nat]
      · rw [if_neg h, if_neg h]; rfl
    · rw [if_neg h1, if_neg h1]
      by_cases h2 : x = true
      · rw [if_pos h2, if_pos h2]; exact i1 false k
      · rw [if_neg h2, if_neg h2]
        by_cases h3 : g j = 92
        · rw [if_pos h3, if_pos h3]; exact i1 true k
        · rw [if_neg h3, if_neg h3]
          by_cases h4 : g j = 40
          · rw [if_pos h4, if_pos h4]
            by_cases h5 : 32 < k + 1
            · rw [if_pos h5, if_pos h5]; rfl
            · rw [if_neg h5, if_neg h5]; exact i1 false (k + 1)
          · rw [if_neg h4, if_neg h4]
            by_cases h5 : g j = 41
            · rw [if_pos h5, if_pos h5]
              by_cases h6 : k = 0
              · rw [if_pos h6, if_pos h6, sh_nat]
              · rw [if_neg h6, if_neg h6]; exact i1 false (k - 1)
            · rw [if_neg h5, if_neg h5]; exact i1 false k

theorem dest_shift (g g' : Nat → Int) (d n i : Nat) (hi : i ≤ n) (hg : ∀ j, j < n → g' (d + j) = g j) :
    dest g' (d + n) (d + i) = sh d (dest g n i) := by
  rw [dest, dest]
  by_cases h : i < n ∧ g i = 60
  · rw [if_pos h, if_pos ⟨by omega, by rw [hg i h.1]; exact h.2⟩, show d + n - (d + i + 1) = n - (i + 1) from by omega, Nat.add_assoc]
    exact aF_shift g g' d n hg _ _ _ (by omega)
  · rw [if_neg h, if_neg (fun q => h ⟨by omega, by rw [← hg i (by omega)]; exact q.2⟩), show d + n - (d + i) = n - i from by omega]
    exact pF_shift g g' d n hg _ _ _ _ (by omega)

theorem aF_bd (g : Nat → Int) : ∀ (f j : Nat) (x : Bool), aF g f j x = -1 ∨ (j : Int) + 1 ≤ aF g f j x ∧ aF g f j x ≤ ((j + f : Nat) : Int) := by
  intro f
  induction f with
  | zero => intro j x; exact Or.inl rfl
  | succ f ih =>
    intro j x
    have i1 := fun x => ih (j + 1) x
    cases x
    · rw [aF]
      by_cases h1 : g j = 62
      · rw [if_pos h1]; omega
      · rw [if_neg h1]
        by_cases h2 : g j = 92
        · rw [if_pos h2]; have := i1 true; omega
        · rw [if_neg h2]
          by_cases h3 : g j = 10 ∨ g j = 60
          · rw [if_pos h3]; exact Or.inl rfl
          · rw [if_neg h3]; have := i1 false; omega
    · rw [aF]; have := i1 false; omega

theorem pF_bd (g : Nat → Int) : ∀ (f j : Nat) (x : Bool) (k : Nat), pF g f j x k = -1 ∨ (j : Int) ≤ pF g f j x k ∧ pF g f j x k ≤ ((j + f : Nat) : Int) := by
  intro f
  induction f with
  | zero => intro j x k; rw [pF]; by_cases h : k = 0; · rw [if_pos h]; omega
            · rw [if_neg h]; exact Or.inl rfl
  | succ f ih =>
    intro j x k
    have i1 := fun x k => ih (j + 1) x k
    rw [pF]
    by_cases h1 : spB (g j) = true
    · rw [if_pos h1]
      by_cases h : k = 0
      · rw [if_pos h]; omega
      · rw [if_neg h]; exact Or.inl rfl
    · rw [if_neg h1]
      by_cases h2 : x = true
      · rw [if_pos h2]; have := i1 false k; omega
      · rw [if_neg h2]
        by_cases h3 : g j = 92
        · rw [if_pos h3]; have := i1 true k; omega
        · rw [if_neg h3]
          by_cases h4 : g j = 40
          · rw [if_pos h4]
            by_cases h5 : 32 < k + 1
            · rw [if_pos h5]; exact Or.inl rfl
            · rw [if_neg h5]; have := i1 false (k + 1); omega
          · rw [if_neg h4]
            by_cases h5 : g j = 41
            · rw [if_pos h5]
              by_cases h6 : k = 0
              · rw [if_pos h6]; omega
              · rw [if_neg h6]; have := i1 false (k - 1); omega
            · rw [if_neg h5]; have := i1 false k; omega

theorem dest_bd (g : Nat → Int) (n i : Nat) (hi : i ≤ n) : -1 ≤ dest g n i ∧ dest g n i ≤ n := by
  rw [dest]
  by_cases h : i < n ∧ g i = 60
  · rw [if_pos h]; have := aF_bd g (n - (i + 1)) (i + 1) false; omega
  · rw [if_neg h]; have := pF_bd g (n - i) i false 0; omega

end Go.Proofs.Qxb6601606a.Pl
