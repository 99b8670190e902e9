import Derived.Test.Qxb6601606aTitle
import Derived.Test.Qxb6601606aDestPlain
namespace Go.Proofs.Qxb6601606a
open Go.RowKit

theorem isSpace_any (c : Int) (w : World) :
    Calls Try.prog 42 #[.int .u8 c] w fun e w' => e = .returned (.bool (Pl.spB c)) ∧ w' = w := by
  go_enter Try.func42, Try.ntmps42
  go_wp2
  all_goals go_ret
  all_goals exact ⟨ret_bool (by rw [Bool.eq_iff_iff]; simp [Pl.spB] <;> omega), rfl⟩

theorem isPunct_any (c : Int) (w : World) :
    Calls Try.prog 43 #[.int .u8 c] w fun e w' => e = .returned (.bool (Pl.puB c)) ∧ w' = w := by
  go_enter Try.func43, Try.ntmps43
  go_wp2
  all_goals go_ret
  all_goals exact ⟨ret_bool (by rw [Bool.eq_iff_iff]; simp [Pl.puB] <;> omega), rfl⟩

/-! ### in angle brackets -/
def ARel (s : ByteArray) (i : Nat) (R : Int) (t : Value) : Prop :=
  ∃ j : Nat, i < j ∧ j ≤ s.size + 1 ∧ t = .int .i64 j ∧ Pl.aF (Pl.bt s) (s.size - j) j false = R

set_option maxHeartbeats 1000000 in
theorem dest_angle (s : ByteArray) (i : Nat) (w : World) (hs : s.size ≤ 2097152) (hi : i < s.size) (ho : (s[i].toNat : Int) = 60) :
    Calls Try.prog 31 #[.string s, .int .i64 i] w fun e w' => e = .returned (.int .i64 (Pl.aF (Pl.bt s) (s.size - (i + 1)) (i + 1) false)) ∧ w' = w := by
  go_enter Try.func31, Try.ntmps31
  go_wp2
  go_loop [1] (fun t => ARel s i (Pl.aF (Pl.bt s) (s.size - (i + 1)) (i + 1) false) t) (fun t => s.size + 1 - (intOf t).toNat)
  case atStart => exact ⟨i + 1, by omega, by omega, by go_num, rfl⟩
  case round =>
    obtain ⟨j, h1, h2, rfl, H0⟩ := hrel
    have H : Hid _ := H0
    clear H0
    by_cases hlt : j < s.size
    · go_wp2
      · go_ret
        exact ⟨ret_int (Pl.a_close hlt ((Pl.bt_of s j hlt).symm.trans (Pl.eqB ‹_›)) H.out), rfl⟩
      · go_round
        case rel => exact ⟨j + 2, by omega, by omega, by go_num, Pl.a_esc hlt ((Pl.bt_of s j hlt).symm.trans (Pl.eqB ‹_›)) H.out⟩
        case measure => simp [intOf]; omega
      · go_ret
        exact ⟨ret_int (Pl.a_bad hlt (Or.inl ((Pl.bt_of s j hlt).symm.trans (Pl.eqB ‹_›))) H.out), rfl⟩
      · go_ret
        exact ⟨ret_int (Pl.a_bad hlt (Or.inr ((Pl.bt_of s j hlt).symm.trans (Pl.eqB ‹_›))) H.out), rfl⟩
      · go_round
        case rel => exact ⟨j + 1, by omega, by omega, by go_num, Pl.a_on hlt (Pl.bt_of s j hlt ▸ Pl.neB ‹_›) (Pl.bt_of s j hlt ▸ Pl.neB ‹_›) (Pl.bt_of s j hlt ▸ Pl.neB ‹_›) (Pl.bt_of s j hlt ▸ Pl.neB ‹_›) H.out⟩
        case measure => simp [intOf]; omega
    · go_wp2
      go_ret
      exact ⟨ret_int ((Pl.aF_end _ _ _ _ (by omega)).symm.trans H.out), rfl⟩

/-! ### without -/
def PRel (s : ByteArray) (i : Nat) (R : Int) (t u : Value) : Prop :=
  ∃ j d : Nat, i ≤ j ∧ j ≤ s.size ∧ d ≤ 32 ∧ t = .int .i64 j ∧ u = .int .i64 d ∧ Pl.pF (Pl.bt s) (s.size - j) j false d = R

set_option maxHeartbeats 1000000 in
theorem dest_plain (s : ByteArray) (i : Nat) (w : World) (hs : s.size ≤ 2097152) (hi : i < s.size) (ho : ((s[i].toNat : Int) == 60) = false) :
    Calls Try.prog 31 #[.string s, .int .i64 i] w fun e w' => e = .returned (.int .i64 (Pl.pF (Pl.bt s) (s.size - i) i false 0)) ∧ w' = w := by
  go_enter Try.func31, Try.ntmps31
  go_wp2
  go_loop [1, 5] (fun t u => PRel s i (Pl.pF (Pl.bt s) (s.size - i) i false 0) t u) (fun t _ => s.size - (intOf t).toNat)
  case atStart => exact ⟨i, 0, by omega, by omega, by omega, rfl, rfl, rfl⟩
  case round =>
    obtain ⟨j, d, h1, h2, h3, rfl, rfl, H0⟩ := hrel
    have H : Hid _ := H0
    clear H0
    by_cases hlt : j < s.size
    · by_cases hsp : Pl.spB (s[j].toNat : Int) = true
      · go_wp2_with (go_at_call 42; refine (isSpace_any _ _).mono ?_; rintro e w' ⟨rfl, rfl⟩)
        · go_ret
          exact ⟨ret_int (Pl.endN ‹_› (Pl.p_space (Or.inr ⟨hlt, Pl.bt_of s j hlt ▸ hsp⟩) H.out)), rfl⟩
        · go_ret
          exact ⟨ret_int (Pl.end0 ‹_› (Pl.p_space (Or.inr ⟨hlt, Pl.bt_of s j hlt ▸ hsp⟩) H.out)), rfl⟩
      · have hsp' : Pl.spB (s[j].toNat : Int) = false := by simpa using hsp
        clear hsp
        go_wp2_with (first | (go_at_call 42; refine (isSpace_any _ _).mono ?_; rintro e w' ⟨rfl, rfl⟩) | (go_at_call 43; refine (isPunct_any _ _).mono ?_; rintro e w' ⟨rfl, rfl⟩))
        · go_round
          case rel => exact ⟨j + 2, d, by omega, by omega, by omega, by go_num, rfl, Pl.p_esc (by omega) ((Pl.bt_of s j hlt).symm.trans ‹_›) (Pl.bt_of s (j + 1) (by omega) ▸ ‹_›) H.out⟩
          case measure => simp [intOf]; omega
        · go_round
          case rel => exact ⟨j + 1, d, by omega, by omega, by omega, by go_num, rfl, Pl.p_lone hlt ((Pl.bt_of s j hlt).symm.trans ‹_›) (Or.inr (Pl.bt_of s (j + 1) (by omega) ▸ ‹_›)) H.out⟩
          case measure => simp [intOf]; omega
        · go_round
          case rel => exact ⟨j + 1, d, by omega, by omega, by omega, by go_num, rfl, Pl.p_lone hlt ((Pl.bt_of s j hlt).symm.trans ‹_›) (Or.inl (by omega)) H.out⟩
          case measure => simp [intOf]; omega
        · go_ret
          exact ⟨ret_int (Pl.p_deep hlt ((Pl.bt_of s j hlt).symm.trans (Pl.eqB ‹_›)) (by omega) H.out), rfl⟩
        · go_round
          case rel => exact ⟨j + 1, d + 1, by omega, by omega, by omega, by go_num, by go_num, Pl.p_open hlt ((Pl.bt_of s j hlt).symm.trans (Pl.eqB ‹_›)) (by omega) H.out⟩
          case measure => simp [intOf]; omega
        · go_ret
          exact ⟨ret_int (Pl.p_out hlt ((Pl.bt_of s j hlt).symm.trans ‹_›) (Pl.nat0 ‹_›) H.out), rfl⟩
        · go_round
          case rel => exact ⟨j + 1, d - 1, by omega, by omega, by omega, by go_num, by (have := Pl.natN ‹((d : Int) == 0) = false›; go_num), Pl.p_shut hlt ((Pl.bt_of s j hlt).symm.trans ‹_›) (Pl.natN ‹_›) H.out⟩
          case measure => simp [intOf]; omega
        · go_round
          case rel => exact ⟨j + 1, d, by omega, by omega, by omega, by go_num, rfl, Pl.p_on hlt (Pl.bt_of s j hlt ▸ hsp') (Pl.bt_of s j hlt ▸ ‹¬ (s[j].toNat : Int) = 92›) (Pl.bt_of s j hlt ▸ Pl.neB ‹_›) (Pl.bt_of s j hlt ▸ ‹¬ (s[j].toNat : Int) = 41›) H.out⟩
          case measure => simp [intOf]; omega
    · go_wp2
      · go_ret
        exact ⟨ret_int (Pl.endN ‹_› (Pl.p_space (Or.inl (by omega)) H.out)), rfl⟩
      · go_ret
        exact ⟨ret_int (Pl.end0 ‹_› (Pl.p_space (Or.inl (by omega)) H.out)), rfl⟩

end Go.Proofs.Qxb6601606a
