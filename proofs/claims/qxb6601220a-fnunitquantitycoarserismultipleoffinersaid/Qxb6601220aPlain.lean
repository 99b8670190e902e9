/-
  PLAIN: no Go in sight. The quantity of a unit.
-/
namespace Go.Proofs.Qxb6601220a.Pl

/-- n times a tenth, from q on -/
def tenths : Nat → Nat → Nat
  | 0, q => q
  | n + 1, q => tenths n (q / 10)

/-- the quantity of the unit u -/
def qty (u : Nat) : Nat := tenths u 100000000

theorem tenths_succ (n : Nat) : ∀ q : Nat, tenths (n + 1) q = tenths n q / 10 := by
  induction n with
  | zero => intro q; rfl
  | succ n ih => intro q; rw [tenths, ih, tenths]

theorem qty_succ (u : Nat) : qty (u + 1) = qty u / 10 := tenths_succ u 100000000

theorem qty_le (u : Nat) : qty u ≤ 100000000 := by
  induction u with
  | zero => exact Nat.le_refl _
  | succ u ih => rw [qty_succ]; omega

theorem qty_nine : ∀ k : Nat, qty (9 + k) = 0
  | 0 => by decide
  | k + 1 => by rw [← Nat.add_assoc, qty_succ, qty_nine k]

theorem qty_big {u : Nat} (h : 9 ≤ u) : qty u = 0 := by
  rw [show u = 9 + (u - 9) from by omega]
  exact qty_nine _

theorem qty_mono (u k : Nat) : qty (u + k) ≤ qty u := by
  induction k with
  | zero => exact Nat.le_refl _
  | succ k ih => rw [← Nat.add_assoc, qty_succ]; omega

/-- ten, k times -/
def tens : Nat → Nat
  | 0 => 1
  | k + 1 => tens k * 10

theorem tens_le {k : Nat} (h : k ≤ 8) : tens k ≤ 100000000 := by
  have : ∀ k, k < 9 → tens k ≤ 100000000 := by decide
  exact this k (by omega)

/-- of two units, the finer not finer than the finest: the finer's quantity is not 0, it divides the coarser's, and the ratio is a power of ten -/
theorem qty_ratio {a b : Nat} (hab : a ≤ b) (hb : b ≤ 8) : qty b ≠ 0 ∧ qty a % qty b = 0 ∧ qty a / qty b = tens (b - a) := by
  have : ∀ b, b < 9 → ∀ a, a < b + 1 → (qty b ≠ 0 ∧ qty a % qty b = 0 ∧ qty a / qty b = tens (b - a)) := by decide
  exact this b (by omega) a (by omega)

end Go.Proofs.Qxb6601220a.Pl
