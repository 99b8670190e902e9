import Derived.Test.Qxb6601606aRows
import Derived.Test.Qxb6601606aBytes
import Derived.WalkKit
import Derived.WalkSpells
namespace Go.Proofs.Qxb6601606a
open Go.RowKit

theorem ret_int {k : IntKind} {a b : Int} (h : a = b) : Ending.returned (.int k a) = .returned (.int k b) := by rw [h]

theorem ret_bool {a b : Bool} (h : a = b) : Ending.returned (.bool a) = .returned (.bool b) := by rw [h]

/-- what holds at the head of every round of the loop of 'title' -/
def TRel (s : ByteArray) (c : Int) (i : Nat) (R : Int) (t u : Value) : Prop :=
  ∃ (j : Nat) (e : Int), i < j ∧ j ≤ s.size ∧ -1 ≤ e ∧ e ≤ 2097152 ∧ t = .int .i64 e ∧ u = .int .i64 j ∧ Pl.tLoop (Pl.bt s) c (s.size - j) j e = R

set_option maxHeartbeats 1000000 in
theorem title_34 (s : ByteArray) (i : Nat) (w : World) (hs : s.size ≤ 2097152) (hi : i < s.size) (ho : (s[i].toNat : Int) = 34) :
    Calls Try.prog 33 #[.string s, .int .i64 i] w fun e w' => e = .returned (.int .i64 (Pl.tLoop (Pl.bt s) 34 (s.size - (i + 1)) (i + 1) (-1))) ∧ w' = w := by
  have hne : ((i : Int) == (s.size : Int)) = false := by simp; omega
  go_enter Try.func33, Try.ntmps33
  go_wp2
  go_loop [6, 7] (fun t u => TRel s 34 i (Pl.tLoop (Pl.bt s) 34 (s.size - (i + 1)) (i + 1) (-1)) t u) (fun _ u => s.size - (intOf u).toNat)
  case atStart => exact ⟨i + 1, -1, by omega, by omega, by omega, by omega, rfl, by go_num, rfl⟩
  case round =>
    obtain ⟨j, e, h1, h2, h3, h4, rfl, rfl, H0⟩ := hrel
    have H : Hid _ := H0
    clear H0
    by_cases hlt : j < s.size
    · go_wp2
      · go_ret
        exact ⟨ret_int (Pl.tl_hit_stop hlt ((Pl.bt_of s j hlt).symm.trans ‹_›) (Pl.bt_of s (j - 1) (by omega) ▸ Pl.ne92 ‹_›) H.out), rfl⟩
      · go_round
        case rel => exact ⟨j + 1, (j : Int) + 1, by omega, by omega, by omega, by omega, rfl, by go_num, Pl.tl_hit_go hlt ((Pl.bt_of s j hlt).symm.trans ‹_›) (Pl.bt_of s (j - 1) (by omega) ▸ Pl.eq92 ‹_›) H.out⟩
        case measure => simp [intOf]; omega
      · go_round
        case rel => exact ⟨j + 1, e, by omega, by omega, by omega, by omega, rfl, by go_num, Pl.tl_skip hlt (Pl.bt_of s j hlt ▸ ‹¬ _›) (Or.inl (by decide)) H.out⟩
        case measure => simp [intOf]; omega
    · go_wp2
      go_ret
      exact ⟨ret_int ((Pl.tLoop_end _ _ _ _ _ (by omega)).symm.trans H.out), rfl⟩

set_option maxHeartbeats 1000000 in
theorem title_39 (s : ByteArray) (i : Nat) (w : World) (hs : s.size ≤ 2097152) (hi : i < s.size) (ho : (s[i].toNat : Int) = 39) :
    Calls Try.prog 33 #[.string s, .int .i64 i] w fun e w' => e = .returned (.int .i64 (Pl.tLoop (Pl.bt s) 39 (s.size - (i + 1)) (i + 1) (-1))) ∧ w' = w := by
  have hne : ((i : Int) == (s.size : Int)) = false := by simp; omega
  go_enter Try.func33, Try.ntmps33
  go_wp2
  go_loop [6, 7] (fun t u => TRel s 39 i (Pl.tLoop (Pl.bt s) 39 (s.size - (i + 1)) (i + 1) (-1)) t u) (fun _ u => s.size - (intOf u).toNat)
  case atStart => exact ⟨i + 1, -1, by omega, by omega, by omega, by omega, rfl, by go_num, rfl⟩
  case round =>
    obtain ⟨j, e, h1, h2, h3, h4, rfl, rfl, H0⟩ := hrel
    have H : Hid _ := H0
    clear H0
    by_cases hlt : j < s.size
    · go_wp2
      · go_ret
        exact ⟨ret_int (Pl.tl_hit_stop hlt ((Pl.bt_of s j hlt).symm.trans ‹_›) (Pl.bt_of s (j - 1) (by omega) ▸ Pl.ne92 ‹_›) H.out), rfl⟩
      · go_round
        case rel => exact ⟨j + 1, (j : Int) + 1, by omega, by omega, by omega, by omega, rfl, by go_num, Pl.tl_hit_go hlt ((Pl.bt_of s j hlt).symm.trans ‹_›) (Pl.bt_of s (j - 1) (by omega) ▸ Pl.eq92 ‹_›) H.out⟩
        case measure => simp [intOf]; omega
      · go_round
        case rel => exact ⟨j + 1, e, by omega, by omega, by omega, by omega, rfl, by go_num, Pl.tl_skip hlt (Pl.bt_of s j hlt ▸ ‹¬ _›) (Or.inl (by decide)) H.out⟩
        case measure => simp [intOf]; omega
    · go_wp2
      go_ret
      exact ⟨ret_int ((Pl.tLoop_end _ _ _ _ _ (by omega)).symm.trans H.out), rfl⟩

set_option maxHeartbeats 1000000 in
theorem title_40 (s : ByteArray) (i : Nat) (w : World) (hs : s.size ≤ 2097152) (hi : i < s.size) (ho : (s[i].toNat : Int) = 40) :
    Calls Try.prog 33 #[.string s, .int .i64 i] w fun e w' => e = .returned (.int .i64 (Pl.tLoop (Pl.bt s) 41 (s.size - (i + 1)) (i + 1) (-1))) ∧ w' = w := by
  have hne : ((i : Int) == (s.size : Int)) = false := by simp; omega
  go_enter Try.func33, Try.ntmps33
  go_wp2
  go_loop [6, 7] (fun t u => TRel s 41 i (Pl.tLoop (Pl.bt s) 41 (s.size - (i + 1)) (i + 1) (-1)) t u) (fun _ u => s.size - (intOf u).toNat)
  case atStart => exact ⟨i + 1, -1, by omega, by omega, by omega, by omega, rfl, by go_num, rfl⟩
  case round =>
    obtain ⟨j, e, h1, h2, h3, h4, rfl, rfl, H0⟩ := hrel
    have H : Hid _ := H0
    clear H0
    by_cases hlt : j < s.size
    · go_wp2
      · go_ret
        exact ⟨ret_int (Pl.tl_hit_stop hlt ((Pl.bt_of s j hlt).symm.trans ‹_›) (Pl.bt_of s (j - 1) (by omega) ▸ Pl.ne92 ‹_›) H.out), rfl⟩
      · go_round
        case rel => exact ⟨j + 1, (j : Int) + 1, by omega, by omega, by omega, by omega, rfl, by go_num, Pl.tl_hit_go hlt ((Pl.bt_of s j hlt).symm.trans ‹_›) (Pl.bt_of s (j - 1) (by omega) ▸ Pl.eq92 ‹_›) H.out⟩
        case measure => simp [intOf]; omega
      · go_round
        case rel => exact ⟨j + 1, e, by omega, by omega, by omega, by omega, rfl, by go_num, Pl.tl_skip hlt (Pl.bt_of s j hlt ▸ ‹¬ _›) (Or.inr (Pl.bt_of s j hlt ▸ Pl.ne40 ‹_›)) H.out⟩
        case measure => simp [intOf]; omega
      · go_ret
        exact ⟨ret_int (Pl.tl_par_stop hlt ((Pl.bt_of s j hlt).symm.trans (Pl.eq40 ‹¬ _› ‹_ ∨ _›)) (Pl.bt_of s (j - 1) (by omega) ▸ Pl.ne92 ‹_›) H.out), rfl⟩
      · go_round
        case rel => exact ⟨j + 1, e, by omega, by omega, by omega, by omega, rfl, by go_num, Pl.tl_par_go hlt ((Pl.bt_of s j hlt).symm.trans (Pl.eq40 ‹¬ _› ‹_ ∨ _›)) (Pl.bt_of s (j - 1) (by omega) ▸ Pl.eq92 ‹_›) H.out⟩
        case measure => simp [intOf]; omega
    · go_wp2
      go_ret
      exact ⟨ret_int ((Pl.tLoop_end _ _ _ _ _ (by omega)).symm.trans H.out), rfl⟩

theorem title_end (s : ByteArray) (i : Nat) (w : World) (hi : i = s.size) :
    Calls Try.prog 33 #[.string s, .int .i64 i] w fun e w' => e = .returned (.int .i64 (-1)) ∧ w' = w := by
  subst hi
  go_enter Try.func33, Try.ntmps33
  go_wp2
  go_ret
  exact ⟨rfl, rfl⟩

theorem title_other (s : ByteArray) (i : Nat) (w : World) (hi : i < s.size)
    (h1 : ((s[i].toNat : Int) == 40) = false) (h2 : ((s[i].toNat : Int) == 34) = false) (h3 : ((s[i].toNat : Int) == 39) = false) :
    Calls Try.prog 33 #[.string s, .int .i64 i] w fun e w' => e = .returned (.int .i64 (-1)) ∧ w' = w := by
  have hne : ((i : Int) == (s.size : Int)) = false := by simp; omega
  go_enter Try.func33, Try.ntmps33
  go_wp2
  go_ret
  exact ⟨rfl, rfl⟩

/-- 'title' computes the plain function -/
theorem title_any (s : ByteArray) (i : Nat) (w : World) (hs : s.size ≤ 2097152) (hi : i ≤ s.size) :
    Calls Try.prog 33 #[.string s, .int .i64 i] w fun e w' => e = .returned (.int .i64 (Pl.title (Pl.bt s) s.size i)) ∧ w' = w := by
  by_cases he : i = s.size
  · rw [show Pl.title (Pl.bt s) s.size i = -1 from by simp [Pl.title, he]]
    exact title_end s i w he
  · have hlt : i < s.size := by omega
    have hb := Pl.bt_of s i hlt
    by_cases c40 : (s[i].toNat : Int) = 40
    · rw [show Pl.title (Pl.bt s) s.size i = _ from Pl.title_of he (c := 41) (by rw [← hb, c40]; rfl) (by decide)]
      exact title_40 s i w hs hlt c40
    · by_cases c34 : (s[i].toNat : Int) = 34
      · rw [show Pl.title (Pl.bt s) s.size i = _ from Pl.title_of he (c := 34) (by rw [← hb, c34]; rfl) (by decide)]
        exact title_34 s i w hs hlt c34
      · by_cases c39 : (s[i].toNat : Int) = 39
        · rw [show Pl.title (Pl.bt s) s.size i = _ from Pl.title_of he (c := 39) (by rw [← hb, c39]; rfl) (by decide)]
          exact title_39 s i w hs hlt c39
        · rw [show Pl.title (Pl.bt s) s.size i = -1 from by rw [Pl.title, if_neg he, if_pos (by rw [← hb]; simp [Pl.closer, c40, c34, c39])]]
          exact title_other s i w hlt (by simpa using c40) (by simpa using c34) (by simpa using c39)

/-- 'ZZtitle', at an index that is an Int -/
theorem zztitle_any (s : ByteArray) (i : Int) (w : World) (hs : s.size ≤ 2097152) (h0 : 0 ≤ i) (hi : i ≤ s.size) :
    Calls Try.prog 24 #[.string s, .int .i64 i] w fun e w' => e = .returned (.int .i64 (Pl.title (Pl.bt s) s.size i.toNat)) ∧ w' = w := by
  obtain ⟨k, rfl⟩ := Int.eq_ofNat_of_zero_le h0
  have hk : k ≤ s.size := by omega
  simp only [Int.toNat_natCast]
  clear h0 hi
  go_enter Try.func24, Try.ntmps24
  go_wp2_with (go_at_call 33; refine (title_any _ _ _ hs hk).mono ?_; rintro e w' ⟨rfl, rfl⟩)
  go_ret
  exact ⟨rfl, rfl⟩

end Go.Proofs.Qxb6601606a
