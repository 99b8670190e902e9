/-
  PLAIN: no Go in sight. 'destination', a byte at a time, with a flag 'the byte before escapes this one'.
-/
import Derived.Test.Qxb6601606aBytes
namespace Go.Proofs.Qxb6601606a.Pl

/-- white space -/
def spB (c : Int) : Bool := decide (c = 32 ∨ 9 ≤ c ∧ c ≤ 13)
/-- ASCII punctuation -/
def puB (c : Int) : Bool := decide (33 ≤ c ∧ c ≤ 47 ∨ 58 ≤ c ∧ c ≤ 64 ∨ 91 ≤ c ∧ c ≤ 96 ∨ 123 ≤ c ∧ c ≤ 126)

/-- in angle brackets: 'f' bytes are left, 'j' is the place -/
def aF (g : Nat → Int) : Nat → Nat → Bool → Int
  | 0, _, _ => -1
  | f + 1, j, true => aF g f (j + 1) false
  | f + 1, j, false =>
    if g j = 62 then (j : Int) + 1
    else if g j = 92 then aF g f (j + 1) true
    else if g j = 10 ∨ g j = 60 then -1
    else aF g f (j + 1) false

/-- without: 'd' parentheses are open -/
def pF (g : Nat → Int) : Nat → Nat → Bool → Nat → Int
  | 0, j, _, d => if d = 0 then (j : Int) else -1
  | f + 1, j, x, d =>
    if spB (g j) = true then (if d = 0 then (j : Int) else -1)
    else if x = true then pF g f (j + 1) false d
    else if g j = 92 then pF g f (j + 1) true d
    else if g j = 40 then (if 32 < d + 1 then -1 else pF g f (j + 1) false (d + 1))
    else if g j = 41 then (if d = 0 then (j : Int) else pF g f (j + 1) false (d - 1))
    else pF g f (j + 1) false d

def dest (g : Nat → Int) (n i : Nat) : Int :=
  if i < n ∧ g i = 60 then aF g (n - (i + 1)) (i + 1) false else pF g (n - i) i false 0

/-! ### the rounds of the two loops -/
theorem aF_end (g : Nat → Int) (n j : Nat) (x : Bool) (h : n ≤ j) : aF g (n - j) j x = -1 := by
  rw [show n - j = 0 from by omega]; rfl

theorem aF_skip (g : Nat → Int) (n j : Nat) (h : j < n) : aF g (n - j) j true = aF g (n - (j + 1)) (j + 1) false := by
  rw [show n - j = (n - (j + 1)) + 1 from by omega]; rfl

theorem aF_step (g : Nat → Int) (n j : Nat) (h : j < n) : aF g (n - j) j false =
    if g j = 62 then (j : Int) + 1
    else if g j = 92 then aF g (n - (j + 1)) (j + 1) true
    else if g j = 10 ∨ g j = 60 then -1
    else aF g (n - (j + 1)) (j + 1) false := by
  rw [show n - j = (n - (j + 1)) + 1 from by omega]; rfl

theorem a_close {g : Nat → Int} {n j : Nat} {R : Int} (h : j < n) (h1 : g j = 62) (H : aF g (n - j) j false = R) : (j : Int) + 1 = R := by
  rw [aF_step g n j h, if_pos h1] at H; exact H

theorem a_esc {g : Nat → Int} {n j : Nat} {R : Int} (h : j < n) (h1 : g j = 92) (H : aF g (n - j) j false = R) : aF g (n - (j + 2)) (j + 2) false = R := by
  rw [aF_step g n j h, if_neg (by omega), if_pos h1] at H
  by_cases h2 : j + 1 < n
  · rw [aF_skip g n (j + 1) h2] at H; exact H
  · rw [aF_end g n (j + 1) true (by omega)] at H
    rw [aF_end g n (j + 2) false (by omega)]; exact H

theorem a_bad {g : Nat → Int} {n j : Nat} {R : Int} (h : j < n) (h1 : g j = 10 ∨ g j = 60) (H : aF g (n - j) j false = R) : -1 = R := by
  rw [aF_step g n j h, if_neg (by omega), if_neg (by omega), if_pos h1] at H; exact H

theorem a_on {g : Nat → Int} {n j : Nat} {R : Int} (h : j < n) (h1 : g j ≠ 62) (h2 : g j ≠ 92) (h3 : g j ≠ 10) (h4 : g j ≠ 60)
    (H : aF g (n - j) j false = R) : aF g (n - (j + 1)) (j + 1) false = R := by
  rw [aF_step g n j h, if_neg h1, if_neg h2, if_neg (by omega)] at H; exact H

theorem pF_end (g : Nat → Int) (n j : Nat) (x : Bool) (d : Nat) (h : n ≤ j) : pF g (n - j) j x d = if d = 0 then (j : Int) else -1 := by
  rw [show n - j = 0 from by omega]; cases x <;> rfl

theorem pF_step (g : Nat → Int) (n j : Nat) (x : Bool) (d : Nat) (h : j < n) : pF g (n - j) j x d =
    if spB (g j) = true then (if d = 0 then (j : Int) else -1)
    else if x = true then pF g (n - (j + 1)) (j + 1) false d
    else if g j = 92 then pF g (n - (j + 1)) (j + 1) true d
    else if g j = 40 then (if 32 < d + 1 then -1 else pF g (n - (j + 1)) (j + 1) false (d + 1))
    else if g j = 41 then (if d = 0 then (j : Int) else pF g (n - (j + 1)) (j + 1) false (d - 1))
    else pF g (n - (j + 1)) (j + 1) false d := by
  rw [show n - j = (n - (j + 1)) + 1 from by omega, pF]

theorem sp_of {c : Int} (h : spB c = true) : c = 32 ∨ 9 ≤ c ∧ c ≤ 13 := by simpa [spB] using h
theorem not_sp_of {c : Int} (h : c ≠ 32) (h' : ¬ (9 ≤ c ∧ c ≤ 13)) : ¬ spB c = true := by simp only [spB, decide_eq_true_eq]; omega
theorem pu_of {c : Int} (h : puB c = true) : 33 ≤ c ∧ c ≤ 47 ∨ 58 ≤ c ∧ c ≤ 64 ∨ 91 ≤ c ∧ c ≤ 96 ∨ 123 ≤ c ∧ c ≤ 126 := by simpa [puB] using h
theorem not_pu_of {c : Int} (h : puB c = false) : ¬ (33 ≤ c ∧ c ≤ 47 ∨ 58 ≤ c ∧ c ≤ 64 ∨ 91 ≤ c ∧ c ≤ 96 ∨ 123 ≤ c ∧ c ≤ 126) := by
  simpa only [puB, decide_eq_false_iff_not] using h

/-- the byte behind a backslash that escapes nothing reads as any other -/
theorem pF_idle (g : Nat → Int) (n j d : Nat) (h : n ≤ j ∨ puB (g j) = false) : pF g (n - j) j true d = pF g (n - j) j false d := by
  by_cases hj : j < n
  · have h' := not_pu_of (h.resolve_left (by omega))
    rw [pF_step g n j true d hj, pF_step g n j false d hj]
    by_cases hs : spB (g j) = true
    · rw [if_pos hs, if_pos hs]
    · rw [if_neg hs, if_neg hs, if_pos rfl, if_neg (by decide), if_neg (by omega), if_neg (by omega), if_neg (by omega)]
  · rw [pF_end g n j true d (by omega), pF_end g n j false d (by omega)]

theorem p_space {g : Nat → Int} {n j d : Nat} {R : Int} (h : n ≤ j ∨ j < n ∧ spB (g j) = true) (H : pF g (n - j) j false d = R) : (if d = 0 then (j : Int) else -1) = R := by
  rcases h with h | ⟨h, h'⟩
  · rw [pF_end g n j false d h] at H; exact H
  · rw [pF_step g n j false d h, if_pos h'] at H; exact H

theorem p_esc {g : Nat → Int} {n j d : Nat} {R : Int} (h : j + 1 < n) (h1 : g j = 92) (h2 : puB (g (j + 1)) = true)
    (H : pF g (n - j) j false d = R) : pF g (n - (j + 2)) (j + 2) false d = R := by
  have h3 := pu_of h2
  rw [pF_step g n j false d (by omega), if_neg (not_sp_of (by omega) (by omega)), if_neg (by decide), if_pos h1,
    pF_step g n (j + 1) true d h, if_neg (not_sp_of (by omega) (by omega)), if_pos rfl] at H
  exact H

theorem p_lone {g : Nat → Int} {n j d : Nat} {R : Int} (h : j < n) (h1 : g j = 92) (h2 : n ≤ j + 1 ∨ puB (g (j + 1)) = false)
    (H : pF g (n - j) j false d = R) : pF g (n - (j + 1)) (j + 1) false d = R := by
  rw [pF_step g n j false d h, if_neg (not_sp_of (by omega) (by omega)), if_neg (by decide), if_pos h1, pF_idle g n (j + 1) d h2] at H
  exact H

theorem p_deep {g : Nat → Int} {n j d : Nat} {R : Int} (h : j < n) (h1 : g j = 40) (h2 : 32 < d + 1) (H : pF g (n - j) j false d = R) : -1 = R := by
  rw [pF_step g n j false d h, if_neg (not_sp_of (by omega) (by omega)), if_neg (by decide), if_neg (by omega), if_pos h1, if_pos h2] at H
  exact H

theorem p_open {g : Nat → Int} {n j d : Nat} {R : Int} (h : j < n) (h1 : g j = 40) (h2 : ¬ 32 < d + 1) (H : pF g (n - j) j false d = R) :
    pF g (n - (j + 1)) (j + 1) false (d + 1) = R := by
  rw [pF_step g n j false d h, if_neg (not_sp_of (by omega) (by omega)), if_neg (by decide), if_neg (by omega), if_pos h1, if_neg h2] at H
  exact H

theorem p_out {g : Nat → Int} {n j d : Nat} {R : Int} (h : j < n) (h1 : g j = 41) (h2 : d = 0) (H : pF g (n - j) j false d = R) : (j : Int) = R := by
  rw [pF_step g n j false d h, if_neg (not_sp_of (by omega) (by omega)), if_neg (by decide), if_neg (by omega), if_neg (by omega), if_pos h1, if_pos h2] at H
  exact H

theorem p_shut {g : Nat → Int} {n j d : Nat} {R : Int} (h : j < n) (h1 : g j = 41) (h2 : ¬ d = 0) (H : pF g (n - j) j false d = R) :
    pF g (n - (j + 1)) (j + 1) false (d - 1) = R := by
  rw [pF_step g n j false d h, if_neg (not_sp_of (by omega) (by omega)), if_neg (by decide), if_neg (by omega), if_neg (by omega), if_pos h1, if_neg h2] at H
  exact H

theorem p_on {g : Nat → Int} {n j d : Nat} {R : Int} (h : j < n) (h0 : spB (g j) = false) (h1 : g j ≠ 92) (h2 : g j ≠ 40) (h3 : g j ≠ 41)
    (H : pF g (n - j) j false d = R) : pF g (n - (j + 1)) (j + 1) false d = R := by
  rw [pF_step g n j false d h, if_neg (by rw [h0]; decide), if_neg (by decide), if_neg h1, if_neg h2, if_neg h3] at H
  exact H

/-! ### the walk's own words -/
theorem eqB {x c : Int} (h : (x == c) = true) : x = c := by simpa using h
theorem neB {x c : Int} (h : (x == c) = false) : x ≠ c := by simpa using h
theorem nat0 {d : Nat} (h : ((d : Int) == 0) = true) : d = 0 := by simpa using h
theorem natN {d : Nat} (h : ((d : Int) == 0) = false) : ¬ d = 0 := by simpa using h
theorem end0 {j d : Nat} {R : Int} (h : ((d : Int) != 0) = false) (H : (if d = 0 then (j : Int) else -1) = R) : (j : Int) = R := by
  have h' : d = 0 := by simpa using h
  rw [if_pos h'] at H; exact H
theorem endN {j d : Nat} {R : Int} (h : ((d : Int) != 0) = true) (H : (if d = 0 then (j : Int) else -1) = R) : -1 = R := by
  have h' : ¬ d = 0 := by simpa using h
  rw [if_neg h'] at H; exact H

end Go.Proofs.Qxb6601606a.Pl
