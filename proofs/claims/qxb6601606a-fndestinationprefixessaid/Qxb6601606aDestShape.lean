import Derived.Test.Qxb6601606aDestAny
import Derived.Test.Qxb6601606aDestPrefix
namespace Go.Proofs.Qxb6601606a
open Go.RowKit

theorem isWS_sp (c : Int) (w : World) :
    Calls Try.prog 32 #[.int .u8 c] w fun e w' => e = .returned (.bool (Pl.spB c)) ∧ w' = w := by
  go_enter Try.func32, Try.ntmps32
  go_wp2
  all_goals go_ret
  all_goals exact ⟨ret_bool (by rw [Bool.eq_iff_iff]; simp [Pl.spB]; simp_all <;> omega), rfl⟩

theorem dshape_none (s : ByteArray) (i : Int) (w : World) :
    Calls Try.prog 22 #[.string s, .int .i64 i, .int .i64 (-1)] w fun e w' => e = .returned (.bool true) ∧ w' = w := by
  go_enter Try.func22, Try.ntmps22
  go_wp2
  go_ret
  exact ⟨rfl, rfl⟩

set_option maxHeartbeats 1000000 in
theorem dshape_angle (s : ByteArray) (i m : Nat) (w : World) (hs : s.size ≤ 2097152) (hi : i < s.size) (him : i < m) (hm : m < s.size)
    (ho : ((s[i].toNat : Int) == 60) = true) (hc : ((s[m].toNat : Int) == 62) = true) :
    Calls Try.prog 22 #[.string s, .int .i64 i, .int .i64 ((m : Int) + 1)] w fun e w' => e = .returned (.bool true) ∧ w' = w := by
  have h1 : (((m : Int) + 1) == -1) = false := by simp; omega
  go_enter Try.func22, Try.ntmps22
  go_wp2
  go_ret
  exact ⟨rfl, rfl⟩

/-- not at an angle bracket; the answer is the end -/
theorem dshape_end (s : ByteArray) (i : Nat) (w : World) (hi : i < s.size)
    (ho : ((s[i].toNat : Int) == 60) = false) :
    Calls Try.prog 22 #[.string s, .int .i64 i, .int .i64 s.size] w fun e w' => e = .returned (.bool true) ∧ w' = w := by
  have h1 : ((s.size : Int) == -1) = false := by simp
  go_enter Try.func22, Try.ntmps22
  go_wp2
  go_ret
  exact ⟨rfl, rfl⟩

/-- the index is the end -/
theorem dshape_past (s : ByteArray) (w : World) :
    Calls Try.prog 22 #[.string s, .int .i64 s.size, .int .i64 s.size] w fun e w' => e = .returned (.bool true) ∧ w' = w := by
  have h1 : ((s.size : Int) == -1) = false := by simp
  go_enter Try.func22, Try.ntmps22
  go_wp2
  go_ret
  exact ⟨rfl, rfl⟩

set_option maxHeartbeats 1000000 in
theorem dshape_space (s : ByteArray) (i m : Nat) (w : World) (hi : i < s.size) (him : i ≤ m) (hm : m < s.size)
    (ho : ((s[i].toNat : Int) == 60) = false) (hc : Pl.spB (s[m].toNat : Int) = true) :
    Calls Try.prog 22 #[.string s, .int .i64 i, .int .i64 m] w fun e w' => e = .returned (.bool true) ∧ w' = w := by
  have h1 : ((m : Int) == -1) = false := by simp
  have h2 : ((m : Int) == (s.size : Int)) = false := by simp; omega
  go_enter Try.func22, Try.ntmps22
  go_wp2_with (go_at_call 32; refine (isWS_sp _ _).mono ?_; rintro e w' ⟨rfl, rfl⟩)
  go_ret
  exact ⟨rfl, rfl⟩

set_option maxHeartbeats 1000000 in
theorem dshape_paren (s : ByteArray) (i m : Nat) (w : World) (hi : i < s.size) (him : i ≤ m) (hm : m < s.size)
    (ho : ((s[i].toNat : Int) == 60) = false) (hn : Pl.spB (s[m].toNat : Int) = false) (hc : ((s[m].toNat : Int) == 41) = true) :
    Calls Try.prog 22 #[.string s, .int .i64 i, .int .i64 m] w fun e w' => e = .returned (.bool true) ∧ w' = w := by
  have h1 : ((m : Int) == -1) = false := by simp
  have h2 : ((m : Int) == (s.size : Int)) = false := by simp; omega
  go_enter Try.func22, Try.ntmps22
  go_wp2_with (go_at_call 32; refine (isWS_sp _ _).mono ?_; rintro e w' ⟨rfl, rfl⟩)
  go_ret
  exact ⟨rfl, rfl⟩

/-- 'zzDestShape' at what 'destination' answers -/
theorem dshape_any (s : ByteArray) (i : Nat) (r : Int) (w : World) (hs : s.size ≤ 2097152) (hi : i ≤ s.size) (h : Pl.DForm (Pl.bt s) s.size i r) :
    Calls Try.prog 22 #[.string s, .int .i64 i, .int .i64 r] w fun e w' => e = .returned (.bool true) ∧ w' = w := by
  rcases h with rfl | ⟨h1, h2, m, h3, h4, rfl, h5⟩ | ⟨h1, m, h2, rfl, h3⟩
  · exact dshape_none s i w
  · exact dshape_angle s i m w hs h1 h3 h4 (by rw [Pl.bt_of s i h1, h2]; rfl) (by rw [Pl.bt_of s m h4, h5]; rfl)
  · by_cases hlt : i < s.size
    · have ho : ((s[i].toNat : Int) == 60) = false := by
        rw [Pl.bt_of s i hlt]
        simpa using fun q => h1 ⟨hlt, q⟩
      rcases h3 with rfl | ⟨h3, h4⟩
      · exact dshape_end s i w hlt ho
      · rw [← Pl.bt_of s m h3] at h4
        by_cases hsp : Pl.spB (s[m].toNat : Int) = true
        · exact dshape_space s i m w hlt h2 h3 ho hsp
        · exact dshape_paren s i m w hlt h2 h3 ho (by simpa using hsp) (by simpa using h4.resolve_left hsp)
    · obtain rfl : i = s.size := by omega
      obtain rfl : m = s.size := by omega
      exact dshape_past s w

end Go.Proofs.Qxb6601606a
