import Derived.Test.Qxb6601606aDest
namespace Go.Proofs.Qxb6601606a
open Go.RowKit

/-- the loop that is left at once -/
def ZRel (i : Nat) (t u : Value) : Prop := t = .int .i64 i ∧ u = .int .i64 0

set_option maxHeartbeats 1000000 in
theorem dest_past (s : ByteArray) (i : Nat) (w : World) (hi : s.size ≤ i) :
    Calls Try.prog 31 #[.string s, .int .i64 i] w fun e w' => e = .returned (.int .i64 i) ∧ w' = w := by
  have hge : decide (i < s.size) = false := by simp; omega
  go_enter Try.func31, Try.ntmps31
  go_wp2
  go_loop [1, 5] (fun t u => ZRel i t u) (fun _ _ => 0)
  case atStart => exact ⟨rfl, rfl⟩
  case round =>
    obtain ⟨rfl, rfl⟩ := hrel
    go_wp2
    go_ret
    exact ⟨rfl, rfl⟩

/-- 'destination' computes the plain function, at every index from 0 up -/
theorem dest_any (s : ByteArray) (i : Nat) (w : World) (hs : s.size ≤ 2097152) :
    Calls Try.prog 31 #[.string s, .int .i64 i] w fun e w' => e = .returned (.int .i64 (Pl.dest (Pl.bt s) s.size i)) ∧ w' = w := by
  by_cases hlt : i < s.size
  · have hb := Pl.bt_of s i hlt
    by_cases h60 : (s[i].toNat : Int) = 60
    · rw [show Pl.dest (Pl.bt s) s.size i = _ from if_pos ⟨hlt, hb ▸ h60⟩]
      exact dest_angle s i w hs hlt h60
    · rw [show Pl.dest (Pl.bt s) s.size i = _ from if_neg (fun q => h60 (hb.trans q.2))]
      exact dest_plain s i w hs hlt (by simpa using h60)
  · rw [show Pl.dest (Pl.bt s) s.size i = _ from if_neg (fun q => hlt q.1), Pl.pF_end _ _ _ _ _ (by omega), if_pos rfl]
    exact dest_past s i w (by omega)

/-- 'ZZdestination', at an index that is an Int -/
theorem zzdest_any (s : ByteArray) (i : Int) (w : World) (hs : s.size ≤ 2097152) (h0 : 0 ≤ i) :
    Calls Try.prog 18 #[.string s, .int .i64 i] w fun e w' => e = .returned (.int .i64 (Pl.dest (Pl.bt s) s.size i.toNat)) ∧ w' = w := by
  obtain ⟨k, rfl⟩ := Int.eq_ofNat_of_zero_le h0
  simp only [Int.toNat_natCast]
  clear h0
  go_enter Try.func18, Try.ntmps18
  go_wp2_with (go_at_call 31; refine (dest_any _ _ _ hs).mono ?_; rintro e w' ⟨rfl, rfl⟩)
  go_ret
  exact ⟨rfl, rfl⟩

end Go.Proofs.Qxb6601606a
