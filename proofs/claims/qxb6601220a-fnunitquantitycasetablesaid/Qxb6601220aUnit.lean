import Derived.Test.Qxb6601220aRows
import Derived.Test.Qxb6601220aPlain
import Derived.WalkKit
import Derived.WalkSpells
namespace Go.Proofs.Qxb6601220a
open Go.RowKit

theorem ret_int {k : IntKind} {a b : Int} (h : a = b) : Ending.returned (.int k a) = .returned (.int k b) := by rw [h]
theorem ret_bool {a b : Bool} (h : a = b) : Ending.returned (.bool a) = .returned (.bool b) := by rw [h]

theorem val_u64 {a b : Int} (h : a = b) : Value.int .u64 a = .int .u64 b := by rw [h]

/-- a quotient of two small numbers, as the walk writes it -/
theorem quo_u64 {a b t : Nat} (ha : a ≤ 100000000) (h : a / b = t) : (IntKind.u64.wrap ((a : Int) / (b : Int)) == (t : Int)) = true := by
  have e : (a : Int) / (b : Int) = (t : Int) := by rw [← h]; exact (Int.natCast_ediv a b).symm
  have l : t ≤ a := by rw [← h]; exact Nat.div_le_self a b
  rw [e, IntKind.wrap_u64, Int.emod_eq_of_lt (by omega) (by omega)]
  simp

def URel (u : Nat) (t x : Value) : Prop := ∃ k : Nat, k ≤ u ∧ t = .int .u64 (Pl.qty k) ∧ x = .int .u8 k

set_option maxHeartbeats 1000000 in
theorem unit_any (u : Nat) (w : World) (hu : u ≤ 255) :
    Calls Try.prog 7 #[.int .u8 u] w fun e w' => e = .returned (.int .u64 (Pl.qty u)) ∧ w' = w := by
  go_enter Try.func7, Try.ntmps7
  go_wp2
  go_loop [3, 5] (fun t x => URel u t x) (fun _ x => u - (intOf x).toNat)
  case atStart => exact ⟨0, by omega, rfl, rfl⟩
  case round =>
    obtain ⟨k, h1, rfl, rfl⟩ := hrel
    have hq := Pl.qty_le k
    by_cases hlt : k < u
    · go_wp2
      go_round
      case rel => exact ⟨k + 1, by omega, val_u64 (by rw [Pl.qty_succ]; omega), by go_num⟩
      case measure => simp [intOf]; omega
    · obtain rfl : k = u := by omega
      go_wp2
      go_ret
      exact ⟨rfl, rfl⟩

end Go.Proofs.Qxb6601220a
