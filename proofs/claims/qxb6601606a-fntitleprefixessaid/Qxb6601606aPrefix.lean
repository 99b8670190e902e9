/-
  PLAIN: no Go in sight. What 'title' answers has its shape; a string's head that holds it answers the same.
-/
import Derived.Test.Qxb6601606aBytes
namespace Go.Proofs.Qxb6601606a.Pl

theorem tLoop_form (g : Nat → Int) (c : Int) : ∀ (f j : Nat) (e : Int),
    tLoop g c f j e = e ∨ ∃ m : Nat, j ≤ m ∧ m < j + f ∧ tLoop g c f j e = (m : Int) + 1 ∧ g m = c := by
  intro f
  induction f with
  | zero => intro j e; exact Or.inl rfl
  | succ f ih =>
    intro j e
    rw [tLoop]
    by_cases h1 : g j ≠ c ∧ (c ≠ 41 ∨ g j ≠ 40)
    · rw [if_pos h1]
      rcases ih (j + 1) e with h | ⟨m, m1, m2, m3, m4⟩
      · exact Or.inl h
      · exact Or.inr ⟨m, by omega, by omega, m3, m4⟩
    · rw [if_neg h1]
      by_cases h2 : g j = c
      · rw [if_pos h2]
        by_cases h3 : g (j - 1) ≠ 92
        · rw [if_pos h3]; exact Or.inr ⟨j, by omega, by omega, rfl, h2⟩
        · rw [if_neg h3]
          rcases ih (j + 1) ((j : Int) + 1) with h | ⟨m, m1, m2, m3, m4⟩
          · exact Or.inr ⟨j, by omega, by omega, h, h2⟩
          · exact Or.inr ⟨m, by omega, by omega, m3, m4⟩
      · rw [if_neg h2]
        by_cases h3 : g (j - 1) ≠ 92
        · rw [if_pos h3]; exact Or.inl rfl
        · rw [if_neg h3]
          rcases ih (j + 1) e with h | ⟨m, m1, m2, m3, m4⟩
          · exact Or.inl h
          · exact Or.inr ⟨m, by omega, by omega, m3, m4⟩

theorem title_form (g : Nat → Int) (n i : Nat) :
    title g n i = -1 ∨ ∃ m : Nat, i < m ∧ m < n ∧ title g n i = (m : Int) + 1 ∧ g m = closer (g i) ∧ closer (g i) ≠ -1 := by
  by_cases he : i = n
  · exact Or.inl (by rw [title, if_pos he])
  · by_cases hc : closer (g i) = -1
    · exact Or.inl (by rw [title, if_neg he, if_pos hc])
    · rw [title, if_neg he, if_neg hc]
      rcases tLoop_form g (closer (g i)) (n - (i + 1)) (i + 1) (-1) with h | ⟨m, m1, m2, m3, m4⟩
      · exact Or.inl h
      · exact Or.inr ⟨m, by omega, by omega, m3, m4, hc⟩

theorem tLoop_prefix (g : Nat → Int) (c : Int) (m : Nat) : ∀ (f j : Nat) (e : Int),
    j ≤ m → m ≤ j + f → tLoop g c f j e ≤ m → tLoop g c (m - j) j e = tLoop g c f j e := by
  intro f
  induction f with
  | zero => intro j e h1 h2 _; rw [show m - j = 0 from by omega]
  | succ f ih =>
    intro j e h1 h2 h3
    by_cases hm : j = m
    · rcases tLoop_form g c (f + 1) j e with h | ⟨k, k1, k2, k3, k4⟩
      · rw [h, show m - j = 0 from by omega]; rfl
      · omega
    · have i1 := ih (j + 1) e (by omega) (by omega)
      have i2 := ih (j + 1) ((j : Int) + 1) (by omega) (by omega)
      rw [tLoop] at h3
      rw [tLoop_succ g c m j e (by omega), tLoop]
      by_cases c1 : g j ≠ c ∧ (c ≠ 41 ∨ g j ≠ 40)
      · rw [if_pos c1] at h3 ⊢; rw [if_pos c1]; exact i1 h3
      · rw [if_neg c1] at h3 ⊢; rw [if_neg c1]
        by_cases c2 : g j = c
        · rw [if_pos c2] at h3 ⊢
          by_cases c3 : g (j - 1) ≠ 92
          · rw [if_pos c3, if_pos c3]
          · rw [if_neg c3] at h3 ⊢; rw [if_neg c3]; exact i2 h3
        · rw [if_neg c2] at h3 ⊢
          by_cases c3 : g (j - 1) ≠ 92
          · rw [if_pos c3, if_pos c3]
          · rw [if_neg c3] at h3 ⊢; rw [if_neg c3]; exact i1 h3

theorem title_prefix (g : Nat → Int) (n m i : Nat) (him : i ≤ m) (hmn : m ≤ n) (h : title g n i ≤ m) : title g m i = title g n i := by
  by_cases he : i = m
  · rcases title_form g n i with h' | ⟨k, k1, k2, k3, _⟩
    · rw [h', title, if_pos he]
    · omega
  · have hn : ¬ i = n := by omega
    by_cases hc : closer (g i) = -1
    · rw [title, title, if_neg he, if_neg hn, if_pos hc, if_pos hc]
    · rw [title, if_neg hn, if_neg hc] at h
      rw [title, title, if_neg he, if_neg hn, if_neg hc, if_neg hc]
      exact tLoop_prefix g _ m _ _ _ (by omega) (by omega) h

theorem title_congr (g g' : Nat → Int) (n i : Nat) (hi : i ≤ n) (hg : ∀ j, j < n → g' j = g j) : title g' n i = title g n i := by
  have h := title_shift g g' 0 n i hi (fun j hj => by rw [Nat.zero_add]; exact hg j hj)
  have b := title_bd g n i hi
  rw [Nat.zero_add, Nat.zero_add] at h
  rw [h, sh]
  by_cases h0 : title g n i < 0
  · rw [if_pos h0]; omega
  · rw [if_neg h0]; omega

theorem closer_cases {o : Int} (h : closer o ≠ -1) : o = 40 ∧ closer o = 41 ∨ o ≠ 40 ∧ closer o = o := by
  unfold closer at h ⊢
  by_cases h1 : o = 40
  · rw [if_pos h1]; exact Or.inl ⟨h1, rfl⟩
  · rw [if_neg h1] at h ⊢
    by_cases h2 : o = 34 ∨ o = 39
    · rw [if_pos h2]; exact Or.inr ⟨h1, rfl⟩
    · rw [if_neg h2] at h; exact absurd rfl h

end Go.Proofs.Qxb6601606a.Pl
