import Derived.Test.Qxb6601606aTitle
import Derived.Test.Qxb6601606aPrefix
namespace Go.Proofs.Qxb6601606a
open Go.RowKit

theorem tshape_none (s : ByteArray) (i : Int) (w : World) :
    Calls Try.prog 28 #[.string s, .int .i64 i, .int .i64 (-1)] w fun e w' => e = .returned (.bool true) ∧ w' = w := by
  go_enter Try.func28, Try.ntmps28
  go_wp2
  go_ret
  exact ⟨rfl, rfl⟩

set_option maxHeartbeats 1000000 in
theorem tshape_40 (s : ByteArray) (i m : Nat) (w : World) (hs : s.size ≤ 2097152) (him : i < m) (hm : m < s.size)
    (ho : ((s[i].toNat : Int) == 40) = true) (hc : ((s[m].toNat : Int) == 41) = true) :
    Calls Try.prog 28 #[.string s, .int .i64 i, .int .i64 ((m : Int) + 1)] w fun e w' => e = .returned (.bool true) ∧ w' = w := by
  have h1 : (((m : Int) + 1) == -1) = false := by simp; omega
  go_enter Try.func28, Try.ntmps28
  go_wp2
  go_ret
  exact ⟨rfl, rfl⟩

set_option maxHeartbeats 1000000 in
theorem tshape_else (s : ByteArray) (i m : Nat) (w : World) (hs : s.size ≤ 2097152) (him : i < m) (hm : m < s.size)
    (ho : ((s[i].toNat : Int) == 40) = false) (hc : ((s[m].toNat : Int) == (s[i].toNat : Int)) = true) :
    Calls Try.prog 28 #[.string s, .int .i64 i, .int .i64 ((m : Int) + 1)] w fun e w' => e = .returned (.bool true) ∧ w' = w := by
  have h1 : (((m : Int) + 1) == -1) = false := by simp; omega
  go_enter Try.func28, Try.ntmps28
  go_wp2
  go_ret
  exact ⟨rfl, rfl⟩

/-- 'zzTitleShape' at what 'title' answers -/
theorem tshape_any (s : ByteArray) (i : Nat) (r : Int) (w : World) (hs : s.size ≤ 2097152)
    (h : r = -1 ∨ ∃ m : Nat, i < m ∧ m < s.size ∧ r = (m : Int) + 1 ∧ Pl.bt s m = Pl.closer (Pl.bt s i) ∧ Pl.closer (Pl.bt s i) ≠ -1) :
    Calls Try.prog 28 #[.string s, .int .i64 i, .int .i64 r] w fun e w' => e = .returned (.bool true) ∧ w' = w := by
  rcases h with rfl | ⟨m, h1, h2, rfl, h3, h4⟩
  · exact tshape_none s i w
  · have b1 := Pl.bt_of s i (by omega)
    have b2 := Pl.bt_of s m h2
    rcases Pl.closer_cases h4 with ⟨o, c⟩ | ⟨o, c⟩
    · exact tshape_40 s i m w hs h1 h2 (by rw [b1, o]; rfl) (by rw [b2, h3, c]; rfl)
    · exact tshape_else s i m w hs h1 h2 (by rw [b1]; simpa using o) (by rw [b1, b2, h3, c]; simp)

end Go.Proofs.Qxb6601606a
