/-
  PLAIN: no Go in sight. The rounds of the backslash-parity model, told of the plain 'destination' machines: the flag is 'the run of backslashes is odd'.
-/
import Derived.Test.Qxb6601606aDestPlain
namespace Go.Proofs.Qxb6601606a.Pl

/-- is the run odd? -/
def odd (r : Nat) : Bool := decide (r % 2 = 1)

theorem odd_even {r : Nat} (h : ((r : Int) % 2 == 0) = true) : odd r = false := by
  have : (r : Int) % 2 = 0 := by simpa using h
  simp only [odd, decide_eq_false_iff_not]; omega
theorem odd_odd {r : Nat} (h : ((r : Int) % 2 == 0) = false) : odd r = true := by
  have : ¬ (r : Int) % 2 = 0 := by simpa using h
  simp only [odd, decide_eq_true_eq]; omega
theorem odd_succ (r : Nat) : odd (r + 1) = !odd r := by
  unfold odd
  by_cases h : r % 2 = 1
  · rw [decide_eq_true h, decide_eq_false (by omega)]; rfl
  · rw [decide_eq_false h, decide_eq_true (by omega)]; rfl
theorem odd_zero : odd 0 = false := rfl

/-! ### in angle brackets -/
theorem ma_bs {g : Nat → Int} {n j r : Nat} {R : Int} (h : j < n) (h1 : g j = 92) (H : aF g (n - j) j (odd r) = R) :
    aF g (n - (j + 1)) (j + 1) (odd (r + 1)) = R := by
  rw [odd_succ]
  cases hx : odd r
  · rw [hx, aF_step g n j h, if_neg (by omega), if_pos h1] at H; exact H
  · rw [hx, aF_skip g n j h] at H; exact H

theorem ma_skip {g : Nat → Int} {n j r : Nat} {R : Int} (h : j < n) (hx : odd r = true) (H : aF g (n - j) j (odd r) = R) :
    aF g (n - (j + 1)) (j + 1) (odd 0) = R := by
  rw [hx, aF_skip g n j h] at H; exact H

theorem ma_even {g : Nat → Int} {n j r : Nat} {R : Int} (hx : odd r = false) (H : aF g (n - j) j (odd r) = R) : aF g (n - j) j false = R := by
  rw [hx] at H; exact H

theorem or60 {x : Int} (h : ¬ x = 10) (h' : (x == 10) = true ∨ (x == 60) = true) : x = 60 := by
  simp at h'
  omega

/-! ### without -/
theorem not_sp_eq {c : Int} (h : spB c = false) : ¬ spB c = true := by rw [h]; decide

theorem mp_bs {g : Nat → Int} {n j r d : Nat} {R : Int} (h : j < n) (h1 : g j = 92) (H : pF g (n - j) j (odd r) d = R) :
    pF g (n - (j + 1)) (j + 1) (odd (r + 1)) d = R := by
  rw [odd_succ]
  rw [pF_step g n j _ d h, if_neg (not_sp_of (by omega) (by omega))] at H
  cases hx : odd r
  · rw [hx, if_neg (by decide), if_pos h1] at H; exact H
  · rw [hx, if_pos rfl] at H; exact H

theorem mp_skip {g : Nat → Int} {n j r d : Nat} {R : Int} (h : j < n) (h0 : spB (g j) = false) (hx : odd r = true) (H : pF g (n - j) j (odd r) d = R) :
    pF g (n - (j + 1)) (j + 1) (odd 0) d = R := by
  rw [hx, pF_step g n j _ d h, if_neg (not_sp_eq h0), if_pos rfl] at H; exact H

theorem mp_even {g : Nat → Int} {n j r d : Nat} {R : Int} (hx : odd r = false) (H : pF g (n - j) j (odd r) d = R) : pF g (n - j) j false d = R := by
  rw [hx] at H; exact H

theorem mp_end {g : Nat → Int} {n j r d : Nat} {R : Int} (h : j = n) (H : pF g (n - j) j (odd r) d = R) : (if d = 0 then (n : Int) else -1) = R := by
  subst h
  rw [pF_end g j j _ d (Nat.le_refl _)] at H; exact H

/-- cut at the first white space, or anywhere where the answer is the same there -/
theorem pF_cut (g : Nat → Int) (n v : Nat) (hv : v ≤ n) (hend : v = n ∨ spB (g v) = true) :
    ∀ (f j : Nat) (x : Bool) (d : Nat), j + f = v → (∀ k, j ≤ k → k < v → spB (g k) = false) → pF g f j x d = pF g (n - j) j x d := by
  intro f
  induction f with
  | zero =>
    intro j x d hj _
    have hj' : j = v := by omega
    subst hj'
    rcases hend with h | h
    · rw [pF_end g n j x d (by omega), pF]
    · by_cases hn : j < n
      · rw [pF_step g n j x d hn, if_pos h, pF]
      · rw [pF_end g n j x d (by omega), pF]
  | succ f ih =>
    intro j x d hj hk
    have i1 := fun x d => ih (j + 1) x d (by omega) (fun k k1 k2 => hk k (by omega) k2)
    rw [pF_step g n j x d (by omega), pF, i1, i1, i1, i1]

theorem pF_first (g : Nat → Int) (n i v : Nat) (hiv : i ≤ v) (hv : v ≤ n) (hend : v = n ∨ spB (g v) = true) (hk : ∀ k, i ≤ k → k < v → spB (g k) = false) :
    pF g (v - i) i false 0 = pF g (n - i) i false 0 := pF_cut g n v hv hend _ _ _ _ (by omega) hk

end Go.Proofs.Qxb6601606a.Pl
