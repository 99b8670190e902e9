import Derived.Test.Qxb6601606aTitle
import Derived.Test.Qxb6601606aModel
namespace Go.Proofs.Qxb6601606a
open Go.RowKit

def MRel (s : ByteArray) (c : Int) (i : Nat) (R : Nat) (t u : Value) : Prop :=
  ∃ (j : Nat), i < j ∧ j ≤ s.size ∧ t = .int .i64 ((s.size : Int) - 1) ∧ u = .int .i64 j ∧ Pl.mStop (Pl.bt s) c (s.size - 1) (s.size - j) j = R

theorem eqB {x c : Int} (h : (x == c) = true) : x = c := by simpa using h
theorem neB {x c : Int} (h : (x == c) = false) : ¬ x = c := by simpa using h

def LRel (s : ByteArray) (c : Int) (i : Nat) (R : Int) (t : Value) : Prop :=
  ∃ (j : Nat), i ≤ j ∧ j < s.size ∧ t = .int .i64 j ∧ Pl.mLast (Pl.bt s) c i (j - i) = R

set_option maxHeartbeats 1000000 in
theorem model_34 (s : ByteArray) (i : Nat) (w : World) (hs : s.size ≤ 2097152) (hi : i < s.size) (ho : (s[i].toNat : Int) = 34) :
    Calls Try.prog 25 #[.string s, .int .i64 i] w fun e w' => e = .returned (.int .i64 (Pl.tModel (Pl.bt s) 34 s.size i)) ∧ w' = w := by
  have hge : decide (s.size ≤ i) = false := by simp; omega
  go_enter Try.func25, Try.ntmps25
  go_wp2
  go_loop [7, 8] (fun t u => MRel s 34 i (Pl.mStop (Pl.bt s) 34 (s.size - 1) (s.size - (i + 1)) (i + 1)) t u) (fun _ u => s.size - (intOf u).toNat)
  case atStart => exact ⟨i + 1, by omega, by omega, rfl, by go_num, rfl⟩
  case round =>
    obtain ⟨j, h1, h2, rfl, rfl, H0⟩ := hrel
    have H : Hid _ := H0
    clear H0
    by_cases hlt : j < s.size
    · go_wp2
      · have HK : Hid (Pl.mStop (Pl.bt s) 34 (s.size - 1) (s.size - (i + 1)) (i + 1) = j) := H.out.symm.trans (Pl.mStop_hit hlt ⟨Or.inl ((Pl.bt_of s j hlt).symm.trans ‹_›), Pl.bt_of s (j - 1) (by omega) ▸ Pl.ne92 ‹_›⟩)
        clear H
        go_loop [10] (fun t => LRel s 34 i (Pl.tModel (Pl.bt s) 34 s.size i) t) (fun t => (intOf t).toNat)
        case atStart => exact ⟨j, by omega, by omega, rfl, by rw [Pl.tModel, HK.out]⟩
        case round =>
          obtain ⟨j, k1, k2, rfl, K0⟩ := hrel
          have K : Hid _ := K0
          clear K0
          by_cases hgt : i < j
          · go_wp2
            · go_ret
              exact ⟨ret_int ((Pl.mLast_hit hgt ((Pl.bt_of s j k2).symm.trans (eqB ‹_›))).symm.trans K.out), rfl⟩
            · go_round
              case rel => exact ⟨j - 1, by omega, by omega, by go_num, (Pl.mLast_miss hgt (Pl.bt_of s j k2 ▸ neB ‹_›)).symm.trans K.out⟩
              case measure => simp [intOf]; omega
          · go_wp2
            go_ret
            exact ⟨ret_int ((show (-1 : Int) = Pl.mLast _ _ _ _ from by rw [show j - i = 0 from by omega]; rfl).trans K.out), rfl⟩
      · go_round
        case rel => exact ⟨j + 1, by omega, by omega, rfl, by go_num, (Pl.mStop_miss hlt (fun q => q.2 (Pl.bt_of s (j - 1) (by omega) ▸ Pl.eq92 ‹_›))).symm.trans H.out⟩
        case measure => simp [intOf]; omega
      · go_round
        case rel => exact ⟨j + 1, by omega, by omega, rfl, by go_num, (Pl.mStop_miss hlt (fun q => q.1.elim (Pl.bt_of s j hlt ▸ ‹¬ _›) (fun q => absurd q.1 (by decide)))).symm.trans H.out⟩
        case measure => simp [intOf]; omega
    · have HK : Hid (Pl.mStop (Pl.bt s) 34 (s.size - 1) (s.size - (i + 1)) (i + 1) = s.size - 1) := H.out.symm.trans (Pl.mStop_end _ _ _ _ _ (by omega))
      clear H
      go_wp2
      go_loop [10] (fun t => LRel s 34 i (Pl.tModel (Pl.bt s) 34 s.size i) t) (fun t => (intOf t).toNat)
      case atStart => exact ⟨s.size - 1, by omega, by omega, by go_num, by rw [Pl.tModel, HK.out]⟩
      case round =>
        obtain ⟨j, k1, k2, rfl, K0⟩ := hrel
        have K : Hid _ := K0
        clear K0
        by_cases hgt : i < j
        · go_wp2
          · go_ret
            exact ⟨ret_int ((Pl.mLast_hit hgt ((Pl.bt_of s j k2).symm.trans (eqB ‹_›))).symm.trans K.out), rfl⟩
          · go_round
            case rel => exact ⟨j - 1, by omega, by omega, by go_num, (Pl.mLast_miss hgt (Pl.bt_of s j k2 ▸ neB ‹_›)).symm.trans K.out⟩
            case measure => simp [intOf]; omega
        · go_wp2
          go_ret
          exact ⟨ret_int ((show (-1 : Int) = Pl.mLast _ _ _ _ from by rw [show j - i = 0 from by omega]; rfl).trans K.out), rfl⟩

set_option maxHeartbeats 1000000 in
theorem model_39 (s : ByteArray) (i : Nat) (w : World) (hs : s.size ≤ 2097152) (hi : i < s.size) (ho : (s[i].toNat : Int) = 39) :
    Calls Try.prog 25 #[.string s, .int .i64 i] w fun e w' => e = .returned (.int .i64 (Pl.tModel (Pl.bt s) 39 s.size i)) ∧ w' = w := by
  have hge : decide (s.size ≤ i) = false := by simp; omega
  go_enter Try.func25, Try.ntmps25
  go_wp2
  go_loop [7, 8] (fun t u => MRel s 39 i (Pl.mStop (Pl.bt s) 39 (s.size - 1) (s.size - (i + 1)) (i + 1)) t u) (fun _ u => s.size - (intOf u).toNat)
  case atStart => exact ⟨i + 1, by omega, by omega, rfl, by go_num, rfl⟩
  case round =>
    obtain ⟨j, h1, h2, rfl, rfl, H0⟩ := hrel
    have H : Hid _ := H0
    clear H0
    by_cases hlt : j < s.size
    · go_wp2
      · have HK : Hid (Pl.mStop (Pl.bt s) 39 (s.size - 1) (s.size - (i + 1)) (i + 1) = j) := H.out.symm.trans (Pl.mStop_hit hlt ⟨Or.inl ((Pl.bt_of s j hlt).symm.trans ‹_›), Pl.bt_of s (j - 1) (by omega) ▸ Pl.ne92 ‹_›⟩)
        clear H
        go_loop [10] (fun t => LRel s 39 i (Pl.tModel (Pl.bt s) 39 s.size i) t) (fun t => (intOf t).toNat)
        case atStart => exact ⟨j, by omega, by omega, rfl, by rw [Pl.tModel, HK.out]⟩
        case round =>
          obtain ⟨j, k1, k2, rfl, K0⟩ := hrel
          have K : Hid _ := K0
          clear K0
          by_cases hgt : i < j
          · go_wp2
            · go_ret
              exact ⟨ret_int ((Pl.mLast_hit hgt ((Pl.bt_of s j k2).symm.trans (eqB ‹_›))).symm.trans K.out), rfl⟩
            · go_round
              case rel => exact ⟨j - 1, by omega, by omega, by go_num, (Pl.mLast_miss hgt (Pl.bt_of s j k2 ▸ neB ‹_›)).symm.trans K.out⟩
              case measure => simp [intOf]; omega
          · go_wp2
            go_ret
            exact ⟨ret_int ((show (-1 : Int) = Pl.mLast _ _ _ _ from by rw [show j - i = 0 from by omega]; rfl).trans K.out), rfl⟩
      · go_round
        case rel => exact ⟨j + 1, by omega, by omega, rfl, by go_num, (Pl.mStop_miss hlt (fun q => q.2 (Pl.bt_of s (j - 1) (by omega) ▸ Pl.eq92 ‹_›))).symm.trans H.out⟩
        case measure => simp [intOf]; omega
      · go_round
        case rel => exact ⟨j + 1, by omega, by omega, rfl, by go_num, (Pl.mStop_miss hlt (fun q => q.1.elim (Pl.bt_of s j hlt ▸ ‹¬ _›) (fun q => absurd q.1 (by decide)))).symm.trans H.out⟩
        case measure => simp [intOf]; omega
    · have HK : Hid (Pl.mStop (Pl.bt s) 39 (s.size - 1) (s.size - (i + 1)) (i + 1) = s.size - 1) := H.out.symm.trans (Pl.mStop_end _ _ _ _ _ (by omega))
      clear H
      go_wp2
      go_loop [10] (fun t => LRel s 39 i (Pl.tModel (Pl.bt s) 39 s.size i) t) (fun t => (intOf t).toNat)
      case atStart => exact ⟨s.size - 1, by omega, by omega, by go_num, by rw [Pl.tModel, HK.out]⟩
      case round =>
        obtain ⟨j, k1, k2, rfl, K0⟩ := hrel
        have K : Hid _ := K0
        clear K0
        by_cases hgt : i < j
        · go_wp2
          · go_ret
            exact ⟨ret_int ((Pl.mLast_hit hgt ((Pl.bt_of s j k2).symm.trans (eqB ‹_›))).symm.trans K.out), rfl⟩
          · go_round
            case rel => exact ⟨j - 1, by omega, by omega, by go_num, (Pl.mLast_miss hgt (Pl.bt_of s j k2 ▸ neB ‹_›)).symm.trans K.out⟩
            case measure => simp [intOf]; omega
        · go_wp2
          go_ret
          exact ⟨ret_int ((show (-1 : Int) = Pl.mLast _ _ _ _ from by rw [show j - i = 0 from by omega]; rfl).trans K.out), rfl⟩

set_option maxHeartbeats 1000000 in
theorem model_40 (s : ByteArray) (i : Nat) (w : World) (hs : s.size ≤ 2097152) (hi : i < s.size) (ho : (s[i].toNat : Int) = 40) :
    Calls Try.prog 25 #[.string s, .int .i64 i] w fun e w' => e = .returned (.int .i64 (Pl.tModel (Pl.bt s) 41 s.size i)) ∧ w' = w := by
  have hge : decide (s.size ≤ i) = false := by simp; omega
  go_enter Try.func25, Try.ntmps25
  go_wp2
  go_loop [7, 8] (fun t u => MRel s 41 i (Pl.mStop (Pl.bt s) 41 (s.size - 1) (s.size - (i + 1)) (i + 1)) t u) (fun _ u => s.size - (intOf u).toNat)
  case atStart => exact ⟨i + 1, by omega, by omega, rfl, by go_num, rfl⟩
  case round =>
    obtain ⟨j, h1, h2, rfl, rfl, H0⟩ := hrel
    have H : Hid _ := H0
    clear H0
    by_cases hlt : j < s.size
    · go_wp2
      · have HK : Hid (Pl.mStop (Pl.bt s) 41 (s.size - 1) (s.size - (i + 1)) (i + 1) = j) := H.out.symm.trans (Pl.mStop_hit hlt ⟨Or.inl ((Pl.bt_of s j hlt).symm.trans ‹_›), Pl.bt_of s (j - 1) (by omega) ▸ Pl.ne92 ‹_›⟩)
        clear H
        go_loop [10] (fun t => LRel s 41 i (Pl.tModel (Pl.bt s) 41 s.size i) t) (fun t => (intOf t).toNat)
        case atStart => exact ⟨j, by omega, by omega, rfl, by rw [Pl.tModel, HK.out]⟩
        case round =>
          obtain ⟨j, k1, k2, rfl, K0⟩ := hrel
          have K : Hid _ := K0
          clear K0
          by_cases hgt : i < j
          · go_wp2
            · go_ret
              exact ⟨ret_int ((Pl.mLast_hit hgt ((Pl.bt_of s j k2).symm.trans (eqB ‹_›))).symm.trans K.out), rfl⟩
            · go_round
              case rel => exact ⟨j - 1, by omega, by omega, by go_num, (Pl.mLast_miss hgt (Pl.bt_of s j k2 ▸ neB ‹_›)).symm.trans K.out⟩
              case measure => simp [intOf]; omega
          · go_wp2
            go_ret
            exact ⟨ret_int ((show (-1 : Int) = Pl.mLast _ _ _ _ from by rw [show j - i = 0 from by omega]; rfl).trans K.out), rfl⟩
      · go_round
        case rel => exact ⟨j + 1, by omega, by omega, rfl, by go_num, (Pl.mStop_miss hlt (fun q => q.2 (Pl.bt_of s (j - 1) (by omega) ▸ Pl.eq92 ‹_›))).symm.trans H.out⟩
        case measure => simp [intOf]; omega
      · have HK : Hid (Pl.mStop (Pl.bt s) 41 (s.size - 1) (s.size - (i + 1)) (i + 1) = j) := H.out.symm.trans (Pl.mStop_hit hlt ⟨Or.inr ⟨rfl, (Pl.bt_of s j hlt).symm.trans ‹_›⟩, Pl.bt_of s (j - 1) (by omega) ▸ Pl.ne92 ‹_›⟩)
        clear H
        go_loop [10] (fun t => LRel s 41 i (Pl.tModel (Pl.bt s) 41 s.size i) t) (fun t => (intOf t).toNat)
        case atStart => exact ⟨j, by omega, by omega, rfl, by rw [Pl.tModel, HK.out]⟩
        case round =>
          obtain ⟨j, k1, k2, rfl, K0⟩ := hrel
          have K : Hid _ := K0
          clear K0
          by_cases hgt : i < j
          · go_wp2
            · go_ret
              exact ⟨ret_int ((Pl.mLast_hit hgt ((Pl.bt_of s j k2).symm.trans (eqB ‹_›))).symm.trans K.out), rfl⟩
            · go_round
              case rel => exact ⟨j - 1, by omega, by omega, by go_num, (Pl.mLast_miss hgt (Pl.bt_of s j k2 ▸ neB ‹_›)).symm.trans K.out⟩
              case measure => simp [intOf]; omega
          · go_wp2
            go_ret
            exact ⟨ret_int ((show (-1 : Int) = Pl.mLast _ _ _ _ from by rw [show j - i = 0 from by omega]; rfl).trans K.out), rfl⟩
      · go_round
        case rel => exact ⟨j + 1, by omega, by omega, rfl, by go_num, (Pl.mStop_miss hlt (fun q => q.2 (Pl.bt_of s (j - 1) (by omega) ▸ Pl.eq92 ‹_›))).symm.trans H.out⟩
        case measure => simp [intOf]; omega
      · go_round
        case rel => exact ⟨j + 1, by omega, by omega, rfl, by go_num, (Pl.mStop_miss hlt (fun q => q.1.elim (Pl.bt_of s j hlt ▸ ‹¬ (s[j].toNat : Int) = 41›) (fun q => (Pl.bt_of s j hlt ▸ ‹¬ (s[j].toNat : Int) = 40›) q.2))).symm.trans H.out⟩
        case measure => simp [intOf]; omega
    · have HK : Hid (Pl.mStop (Pl.bt s) 41 (s.size - 1) (s.size - (i + 1)) (i + 1) = s.size - 1) := H.out.symm.trans (Pl.mStop_end _ _ _ _ _ (by omega))
      clear H
      go_wp2
      go_loop [10] (fun t => LRel s 41 i (Pl.tModel (Pl.bt s) 41 s.size i) t) (fun t => (intOf t).toNat)
      case atStart => exact ⟨s.size - 1, by omega, by omega, by go_num, by rw [Pl.tModel, HK.out]⟩
      case round =>
        obtain ⟨j, k1, k2, rfl, K0⟩ := hrel
        have K : Hid _ := K0
        clear K0
        by_cases hgt : i < j
        · go_wp2
          · go_ret
            exact ⟨ret_int ((Pl.mLast_hit hgt ((Pl.bt_of s j k2).symm.trans (eqB ‹_›))).symm.trans K.out), rfl⟩
          · go_round
            case rel => exact ⟨j - 1, by omega, by omega, by go_num, (Pl.mLast_miss hgt (Pl.bt_of s j k2 ▸ neB ‹_›)).symm.trans K.out⟩
            case measure => simp [intOf]; omega
        · go_wp2
          go_ret
          exact ⟨ret_int ((show (-1 : Int) = Pl.mLast _ _ _ _ from by rw [show j - i = 0 from by omega]; rfl).trans K.out), rfl⟩

theorem model_end (s : ByteArray) (i : Nat) (w : World) (hi : i = s.size) :
    Calls Try.prog 25 #[.string s, .int .i64 i] w fun e w' => e = .returned (.int .i64 (-1)) ∧ w' = w := by
  subst hi
  go_enter Try.func25, Try.ntmps25
  go_wp2
  go_ret
  exact ⟨rfl, rfl⟩

theorem model_other (s : ByteArray) (i : Nat) (w : World) (hi : i < s.size)
    (h1 : ((s[i].toNat : Int) == 40) = false) (h2 : ((s[i].toNat : Int) == 34) = false) (h3 : ((s[i].toNat : Int) == 39) = false) :
    Calls Try.prog 25 #[.string s, .int .i64 i] w fun e w' => e = .returned (.int .i64 (-1)) ∧ w' = w := by
  go_enter Try.func25, Try.ntmps25
  go_wp2
  go_ret
  exact ⟨rfl, rfl⟩

/-- 'zzTitleModel' computes the plain 'title' -/
theorem model_any (s : ByteArray) (i : Nat) (w : World) (hs : s.size ≤ 2097152) (hi : i ≤ s.size) :
    Calls Try.prog 25 #[.string s, .int .i64 i] w fun e w' => e = .returned (.int .i64 (Pl.title (Pl.bt s) s.size i)) ∧ w' = w := by
  by_cases he : i = s.size
  · rw [show Pl.title (Pl.bt s) s.size i = -1 from by simp [Pl.title, he]]
    exact model_end s i w he
  · have hlt : i < s.size := by omega
    have hb := Pl.bt_of s i hlt
    by_cases c40 : (s[i].toNat : Int) = 40
    · rw [show Pl.title (Pl.bt s) s.size i = _ from Pl.title_of he (c := 41) (by rw [← hb, c40]; rfl) (by decide), Pl.tLoop_tModel _ _ _ _ hlt]
      exact model_40 s i w hs hlt c40
    · by_cases c34 : (s[i].toNat : Int) = 34
      · rw [show Pl.title (Pl.bt s) s.size i = _ from Pl.title_of he (c := 34) (by rw [← hb, c34]; rfl) (by decide), Pl.tLoop_tModel _ _ _ _ hlt]
        exact model_34 s i w hs hlt c34
      · by_cases c39 : (s[i].toNat : Int) = 39
        · rw [show Pl.title (Pl.bt s) s.size i = _ from Pl.title_of he (c := 39) (by rw [← hb, c39]; rfl) (by decide), Pl.tLoop_tModel _ _ _ _ hlt]
          exact model_39 s i w hs hlt c39
        · rw [show Pl.title (Pl.bt s) s.size i = -1 from by rw [Pl.title, if_neg he, if_pos (by rw [← hb]; simp [Pl.closer, c40, c34, c39])]]
          exact model_other s i w hlt (by simpa using c40) (by simpa using c34) (by simpa using c39)

end Go.Proofs.Qxb6601606a
