import Derived.Test.Qxb6601606aDestAny
import Derived.Test.Qxb6601606aParity
namespace Go.Proofs.Qxb6601606a
open Go.RowKit

theorem isWS_any (c : Int) (w : World) :
    Calls Try.prog 32 #[.int .u8 c] w fun e w' => e = .returned (.bool (Pl.spB c)) ∧ w' = w := by
  go_enter Try.func32, Try.ntmps32
  go_wp2
  all_goals go_ret
  all_goals exact ⟨ret_bool (by rw [Bool.eq_iff_iff]; simp [Pl.spB]; simp_all <;> omega), rfl⟩

/-! ### in angle brackets -/
def AMRel (s : ByteArray) (i : Nat) (R : Int) (t u : Value) : Prop :=
  ∃ j r : Nat, i < j ∧ j ≤ s.size ∧ r ≤ j ∧ t = .int .i64 r ∧ u = .int .i64 j ∧ Pl.aF (Pl.bt s) (s.size - j) j (Pl.odd r) = R

set_option maxHeartbeats 1000000 in
theorem dmodel_angle (s : ByteArray) (i : Nat) (w : World) (hs : s.size ≤ 2097152) (hi : i < s.size) (ho : (s[i].toNat : Int) = 60) :
    Calls Try.prog 19 #[.string s, .int .i64 i] w fun e w' => e = .returned (.int .i64 (Pl.aF (Pl.bt s) (s.size - (i + 1)) (i + 1) false)) ∧ w' = w := by
  have hge : decide (s.size ≤ i) = false := by simp; omega
  go_enter Try.func19, Try.ntmps19
  go_wp2
  go_loop [5, 6] (fun t u => AMRel s i (Pl.aF (Pl.bt s) (s.size - (i + 1)) (i + 1) false) t u) (fun _ u => s.size - (intOf u).toNat)
  case atStart => exact ⟨i + 1, 0, by omega, by omega, by omega, rfl, by go_num, rfl⟩
  case round =>
    obtain ⟨j, r, h1, h2, h3, rfl, rfl, H0⟩ := hrel
    have H : Hid _ := H0
    clear H0
    by_cases hlt : j < s.size
    · go_wp2
      · go_round
        case rel => exact ⟨j + 1, r + 1, by omega, by omega, by omega, by go_num, by go_num, Pl.ma_bs hlt ((Pl.bt_of s j hlt).symm.trans (Pl.eqB ‹_›)) H.out⟩
        case measure => simp [intOf]; omega
      · go_ret
        exact ⟨ret_int (Pl.a_close hlt ((Pl.bt_of s j hlt).symm.trans (Pl.eqB ‹_›)) (Pl.ma_even (Pl.odd_even ‹_›) H.out)), rfl⟩
      · go_ret
        exact ⟨ret_int (Pl.a_bad hlt (Or.inl ((Pl.bt_of s j hlt).symm.trans ‹_›)) (Pl.ma_even (Pl.odd_even ‹_›) H.out)), rfl⟩
      · go_ret
        exact ⟨ret_int (Pl.a_bad hlt (Or.inr ((Pl.bt_of s j hlt).symm.trans (Pl.or60 ‹¬ _› ‹_ ∨ _›))) (Pl.ma_even (Pl.odd_even ‹_›) H.out)), rfl⟩
      · go_round
        case rel => exact ⟨j + 1, 0, by omega, by omega, by omega, rfl, by go_num, Pl.a_on hlt (Pl.bt_of s j hlt ▸ Pl.neB ‹_›) (Pl.bt_of s j hlt ▸ Pl.neB ‹_›) (Pl.bt_of s j hlt ▸ ‹¬ _›) (Pl.bt_of s j hlt ▸ Pl.neB (And.right ‹_ ∧ _›)) (Pl.ma_even (Pl.odd_even ‹_›) H.out)⟩
        case measure => simp [intOf]; omega
      · go_round
        case rel => exact ⟨j + 1, 0, by omega, by omega, by omega, rfl, by go_num, Pl.ma_skip hlt (Pl.odd_odd ‹_›) H.out⟩
        case measure => simp [intOf]; omega
    · go_wp2
      go_ret
      exact ⟨ret_int ((Pl.aF_end _ _ _ _ (by omega)).symm.trans H.out), rfl⟩

/-! ### without -/
def WRel (s : ByteArray) (i : Nat) (t : Value) : Prop :=
  ∃ v : Nat, i ≤ v ∧ v ≤ s.size ∧ t = .int .i64 v ∧ ∀ k, i ≤ k → k < v → Pl.spB (Pl.bt s k) = false

def PMRel (s : ByteArray) (i v : Nat) (R : Int) (t u x : Value) : Prop :=
  ∃ j d r : Nat, i ≤ j ∧ j ≤ v ∧ d ≤ 32 ∧ r ≤ j ∧ t = .int .i64 d ∧ u = .int .i64 r ∧ x = .int .i64 j ∧ Pl.pF (Pl.bt s) (v - j) j (Pl.odd r) d = R

set_option maxHeartbeats 1000000 in
theorem dmodel_plain (s : ByteArray) (i : Nat) (w : World) (hs : s.size ≤ 2097152) (hi : i < s.size) (ho : ((s[i].toNat : Int) == 60) = false) :
    Calls Try.prog 19 #[.string s, .int .i64 i] w fun e w' => e = .returned (.int .i64 (Pl.pF (Pl.bt s) (s.size - i) i false 0)) ∧ w' = w := by
  have hge : decide (s.size ≤ i) = false := by simp; omega
  go_enter Try.func19, Try.ntmps19
  go_wp2
  go_loop [8] (fun t => WRel s i t) (fun t => s.size - (intOf t).toNat)
  case atStart => exact ⟨i, by omega, by omega, rfl, fun k k1 k2 => by omega⟩
  case round =>
    obtain ⟨v, h1, h2, rfl, hk0⟩ := hrel
    have hk : Hid _ := hk0
    clear hk0
    by_cases hgo : ∃ h : v < s.size, Pl.spB (s[v].toNat : Int) = false
    · obtain ⟨hlt, hsp⟩ := hgo
      go_wp2_with (go_at_call 32; refine (isWS_any _ _).mono ?_; rintro e w' ⟨rfl, rfl⟩)
      go_round
      case rel => exact ⟨v + 1, by omega, by omega, by go_num, fun k k1 k2 => by
        by_cases e : k = v
        · subst e; rw [← Pl.bt_of s k hlt]; exact hsp
        · exact hk.out k k1 (by omega)⟩
      case measure => simp [intOf]; omega
    · have HE : Hid (v = s.size ∨ Pl.spB (Pl.bt s v) = true) := by
        by_cases hlt : v < s.size
        · right
          rw [← Pl.bt_of s v hlt]
          cases hc : Pl.spB (s[v].toNat : Int)
          · exact absurd ⟨hlt, hc⟩ hgo
          · rfl
        · left; omega
      have HF : Hid _ := Pl.pF_first (Pl.bt s) s.size i v h1 h2 HE.out hk.out
      by_cases hlt : v < s.size
      · have hsp : Pl.spB (s[v].toNat : Int) = true := by
          have := HE.out.resolve_left (by omega)
          rw [← Pl.bt_of s v hlt] at this
          exact this
        clear hgo HE
        go_wp2_with (go_at_call 32; refine (isWS_any _ _).mono ?_; rintro e w' ⟨rfl, rfl⟩)
        go_loop [9, 10, 11] (fun t u x => PMRel s i v (Pl.pF (Pl.bt s) (s.size - i) i false 0) t u x) (fun _ _ x => v - (intOf x).toNat)
        case atStart => exact ⟨i, 0, 0, by omega, by omega, by omega, by omega, rfl, rfl, rfl, HF.out⟩
        case round =>
          obtain ⟨j, d, r, m1, m2, m3, m4, rfl, rfl, rfl, H0⟩ := hrel
          have H : Hid _ := H0
          clear H0
          by_cases hjv : j < v
          · have hlt : j < s.size := by omega
            go_wp2
            · go_round
              case rel => exact ⟨j + 1, d, r + 1, by omega, by omega, by omega, by omega, rfl, by go_num, by go_num, Pl.mp_bs hjv ((Pl.bt_of s j hlt).symm.trans (Pl.eqB ‹_›)) H.out⟩
              case measure => simp [intOf]; omega
            · go_ret
              exact ⟨ret_int (Pl.p_deep hjv ((Pl.bt_of s j hlt).symm.trans (Pl.eqB ‹_›)) (by omega) (Pl.mp_even (Pl.odd_even ‹_›) H.out)), rfl⟩
            · go_round
              case rel => exact ⟨j + 1, d + 1, 0, by omega, by omega, by omega, by omega, by go_num, rfl, by go_num, Pl.p_open hjv ((Pl.bt_of s j hlt).symm.trans (Pl.eqB ‹_›)) (by omega) (Pl.mp_even (Pl.odd_even ‹_›) H.out)⟩
              case measure => simp [intOf]; omega
            · go_ret
              exact ⟨ret_int (Pl.p_out hjv ((Pl.bt_of s j hlt).symm.trans (Pl.eqB ‹_›)) (Pl.nat0 ‹_›) (Pl.mp_even (Pl.odd_even ‹_›) H.out)), rfl⟩
            · go_round
              case rel => exact ⟨j + 1, d - 1, 0, by omega, by omega, by omega, by omega, by (have := Pl.natN ‹((d : Int) == 0) = false›; go_num), rfl, by go_num, Pl.p_shut hjv ((Pl.bt_of s j hlt).symm.trans (Pl.eqB ‹_›)) (Pl.natN ‹_›) (Pl.mp_even (Pl.odd_even ‹_›) H.out)⟩
              case measure => simp [intOf]; omega
            · go_round
              case rel => exact ⟨j + 1, d, 0, by omega, by omega, by omega, by omega, rfl, rfl, by go_num, Pl.p_on hjv (hk.out j m1 hjv) (Pl.bt_of s j hlt ▸ Pl.neB ‹_›) (Pl.bt_of s j hlt ▸ Pl.neB ‹_›) (Pl.bt_of s j hlt ▸ Pl.neB ‹_›) (Pl.mp_even (Pl.odd_even ‹_›) H.out)⟩
              case measure => simp [intOf]; omega
            · go_round
              case rel => exact ⟨j + 1, d, 0, by omega, by omega, by omega, by omega, rfl, rfl, by go_num, Pl.mp_skip hjv (hk.out j m1 hjv) (Pl.odd_odd ‹_›) H.out⟩
              case measure => simp [intOf]; omega
          · go_wp2
            · go_ret
              exact ⟨ret_int (Pl.endN ‹_› (Pl.mp_end (by omega) H.out)), rfl⟩
            · go_ret
              exact ⟨ret_int (Pl.end0 ‹_› (Pl.mp_end (by omega) H.out)), rfl⟩
      · clear hgo HE
        go_wp2
        go_loop [9, 10, 11] (fun t u x => PMRel s i v (Pl.pF (Pl.bt s) (s.size - i) i false 0) t u x) (fun _ _ x => v - (intOf x).toNat)
        case atStart => exact ⟨i, 0, 0, by omega, by omega, by omega, by omega, rfl, rfl, rfl, HF.out⟩
        case round =>
          obtain ⟨j, d, r, m1, m2, m3, m4, rfl, rfl, rfl, H0⟩ := hrel
          have H : Hid _ := H0
          clear H0
          by_cases hjv : j < v
          · have hlt : j < s.size := by omega
            go_wp2
            · go_round
              case rel => exact ⟨j + 1, d, r + 1, by omega, by omega, by omega, by omega, rfl, by go_num, by go_num, Pl.mp_bs hjv ((Pl.bt_of s j hlt).symm.trans (Pl.eqB ‹_›)) H.out⟩
              case measure => simp [intOf]; omega
            · go_ret
              exact ⟨ret_int (Pl.p_deep hjv ((Pl.bt_of s j hlt).symm.trans (Pl.eqB ‹_›)) (by omega) (Pl.mp_even (Pl.odd_even ‹_›) H.out)), rfl⟩
            · go_round
              case rel => exact ⟨j + 1, d + 1, 0, by omega, by omega, by omega, by omega, by go_num, rfl, by go_num, Pl.p_open hjv ((Pl.bt_of s j hlt).symm.trans (Pl.eqB ‹_›)) (by omega) (Pl.mp_even (Pl.odd_even ‹_›) H.out)⟩
              case measure => simp [intOf]; omega
            · go_ret
              exact ⟨ret_int (Pl.p_out hjv ((Pl.bt_of s j hlt).symm.trans (Pl.eqB ‹_›)) (Pl.nat0 ‹_›) (Pl.mp_even (Pl.odd_even ‹_›) H.out)), rfl⟩
            · go_round
              case rel => exact ⟨j + 1, d - 1, 0, by omega, by omega, by omega, by omega, by (have := Pl.natN ‹((d : Int) == 0) = false›; go_num), rfl, by go_num, Pl.p_shut hjv ((Pl.bt_of s j hlt).symm.trans (Pl.eqB ‹_›)) (Pl.natN ‹_›) (Pl.mp_even (Pl.odd_even ‹_›) H.out)⟩
              case measure => simp [intOf]; omega
            · go_round
              case rel => exact ⟨j + 1, d, 0, by omega, by omega, by omega, by omega, rfl, rfl, by go_num, Pl.p_on hjv (hk.out j m1 hjv) (Pl.bt_of s j hlt ▸ Pl.neB ‹_›) (Pl.bt_of s j hlt ▸ Pl.neB ‹_›) (Pl.bt_of s j hlt ▸ Pl.neB ‹_›) (Pl.mp_even (Pl.odd_even ‹_›) H.out)⟩
              case measure => simp [intOf]; omega
            · go_round
              case rel => exact ⟨j + 1, d, 0, by omega, by omega, by omega, by omega, rfl, rfl, by go_num, Pl.mp_skip hjv (hk.out j m1 hjv) (Pl.odd_odd ‹_›) H.out⟩
              case measure => simp [intOf]; omega
          · go_wp2
            · go_ret
              exact ⟨ret_int (Pl.endN ‹_› (Pl.mp_end (by omega) H.out)), rfl⟩
            · go_ret
              exact ⟨ret_int (Pl.end0 ‹_› (Pl.mp_end (by omega) H.out)), rfl⟩

theorem dmodel_past (s : ByteArray) (i : Nat) (w : World) (hi : s.size ≤ i) :
    Calls Try.prog 19 #[.string s, .int .i64 i] w fun e w' => e = .returned (.int .i64 i) ∧ w' = w := by
  go_enter Try.func19, Try.ntmps19
  go_wp2
  go_ret
  exact ⟨rfl, rfl⟩

/-- 'zzDestModel' computes the plain 'destination' -/
theorem dmodel_any (s : ByteArray) (i : Nat) (w : World) (hs : s.size ≤ 2097152) :
    Calls Try.prog 19 #[.string s, .int .i64 i] w fun e w' => e = .returned (.int .i64 (Pl.dest (Pl.bt s) s.size i)) ∧ w' = w := by
  by_cases hlt : i < s.size
  · have hb := Pl.bt_of s i hlt
    by_cases h60 : (s[i].toNat : Int) = 60
    · rw [show Pl.dest (Pl.bt s) s.size i = _ from if_pos ⟨hlt, hb ▸ h60⟩]
      exact dmodel_angle s i w hs hlt h60
    · rw [show Pl.dest (Pl.bt s) s.size i = _ from if_neg (fun q => h60 (hb.trans q.2))]
      exact dmodel_plain s i w hs hlt (by simpa using h60)
  · rw [show Pl.dest (Pl.bt s) s.size i = _ from if_neg (fun q => hlt q.1), Pl.pF_end _ _ _ _ _ (by omega), if_pos rfl]
    exact dmodel_past s i w (by omega)

end Go.Proofs.Qxb6601606a
