/-
  PLAIN: no Go in sight. The two-phase model of 'title': the first stop, then the last closer at or before it; it is the plain 'title'.
-/
import Derived.Test.Qxb6601606aBytes
namespace Go.Proofs.Qxb6601606a.Pl

/-- the first stop from j on ('f' places are left), or d -/
def mStop (g : Nat → Int) (c : Int) (d : Nat) : Nat → Nat → Nat
  | 0, _ => d
  | f + 1, j => if (g j = c ∨ c = 41 ∧ g j = 40) ∧ g (j - 1) ≠ 92 then j else mStop g c d f (j + 1)

/-- the last closer among the 't' places behind i: the place after it, or -1 -/
def mLast (g : Nat → Int) (c : Int) (i : Nat) : Nat → Int
  | 0 => -1
  | t + 1 => if g (i + (t + 1)) = c then ((i + (t + 1) : Nat) : Int) + 1 else mLast g c i t

theorem mStop_end (g : Nat → Int) (c : Int) (d n j : Nat) (h : n ≤ j) : mStop g c d (n - j) j = d := by
  rw [show n - j = 0 from by omega]; rfl

theorem mStop_hit {g : Nat → Int} {c : Int} {d n j : Nat} (hlt : j < n) (h : (g j = c ∨ c = 41 ∧ g j = 40) ∧ g (j - 1) ≠ 92) :
    mStop g c d (n - j) j = j := by
  rw [show n - j = (n - (j + 1)) + 1 from by omega, mStop, if_pos h]

theorem mStop_miss {g : Nat → Int} {c : Int} {d n j : Nat} (hlt : j < n) (h : ¬ ((g j = c ∨ c = 41 ∧ g j = 40) ∧ g (j - 1) ≠ 92)) :
    mStop g c d (n - j) j = mStop g c d (n - (j + 1)) (j + 1) := by
  rw [show n - j = (n - (j + 1)) + 1 from by omega, mStop, if_neg h]

theorem mStop_bd (g : Nat → Int) (c : Int) (d : Nat) : ∀ f j : Nat, mStop g c d f j = d ∨ j ≤ mStop g c d f j ∧ mStop g c d f j < j + f := by
  intro f
  induction f with
  | zero => intro j; exact Or.inl rfl
  | succ f ih =>
    intro j
    rw [mStop]
    by_cases h : (g j = c ∨ c = 41 ∧ g j = 40) ∧ g (j - 1) ≠ 92
    · rw [if_pos h]; omega
    · rw [if_neg h]; have := ih (j + 1); omega

theorem mLast_hit {g : Nat → Int} {c : Int} {i j : Nat} (hij : i < j) (h : g j = c) : mLast g c i (j - i) = (j : Int) + 1 := by
  have e : j - i = (j - 1 - i) + 1 := by omega
  have e' : i + (j - 1 - i + 1) = j := by omega
  rw [e, mLast, e', if_pos h]

theorem mLast_miss {g : Nat → Int} {c : Int} {i j : Nat} (hij : i < j) (h : ¬ g j = c) : mLast g c i (j - i) = mLast g c i (j - 1 - i) := by
  have e : j - i = (j - 1 - i) + 1 := by omega
  have e' : i + (j - 1 - i + 1) = j := by omega
  rw [e, mLast, e', if_neg h]

theorem tLoop_model (g : Nat → Int) (c : Int) (i n : Nat) :
    ∀ f j : Nat, i < j → j + f = n → tLoop g c f j (mLast g c i (j - 1 - i)) = mLast g c i (mStop g c (n - 1) f j - i) := by
  intro f
  induction f with
  | zero => intro j hj hn; rw [tLoop, mStop]; rw [show j - 1 = n - 1 from by omega]
  | succ f ih =>
    intro j hj hn
    have i1 := ih (j + 1) (by omega) (by omega)
    rw [show j + 1 - 1 - i = j - i from by omega] at i1
    rw [tLoop, mStop]
    by_cases h1 : g j = c
    · have hl := mLast_hit (g := g) hj h1
      rw [if_neg (fun q => q.1 h1), if_pos h1]
      by_cases h2 : g (j - 1) ≠ 92
      · rw [if_pos h2, if_pos ⟨Or.inl h1, h2⟩, hl]
      · rw [if_neg h2, if_neg (fun q => h2 q.2), ← i1, hl]
    · have hl := mLast_miss (g := g) hj h1
      rw [if_neg h1]
      by_cases h3 : c = 41 ∧ g j = 40
      · rw [if_neg (by rintro ⟨_, q⟩; rcases q with q | q; exact q h3.1; exact q h3.2)]
        by_cases h2 : g (j - 1) ≠ 92
        · rw [if_pos h2, if_pos ⟨Or.inr h3, h2⟩, hl]
        · rw [if_neg h2, if_neg (fun q => h2 q.2), ← i1, hl]
      · rw [if_pos ⟨h1, by omega⟩, if_neg (by rintro ⟨q | q, _⟩; exact h1 q; exact h3 q), ← i1, hl]

/-- the plain model -/
def tModel (g : Nat → Int) (c : Int) (n i : Nat) : Int := mLast g c i (mStop g c (n - 1) (n - (i + 1)) (i + 1) - i)

theorem tLoop_tModel (g : Nat → Int) (c : Int) (n i : Nat) (h : i < n) : tLoop g c (n - (i + 1)) (i + 1) (-1) = tModel g c n i := by
  have := tLoop_model g c i n (n - (i + 1)) (i + 1) (by omega) (by omega)
  rw [show i + 1 - 1 - i = 0 from by omega] at this
  exact this

end Go.Proofs.Qxb6601606a.Pl
