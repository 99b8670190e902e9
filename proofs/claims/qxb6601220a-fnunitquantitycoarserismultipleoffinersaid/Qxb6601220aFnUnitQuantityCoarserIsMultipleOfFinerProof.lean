/-
  A PROOF OF 'Rows.FnUnitQuantityCoarserIsMultipleOfFinerSaid' (the Go function FnUnitQuantityCoarserIsMultipleOfFiner): the frame was written by program (proof-skeleton.mjs); the walk and the closed facts are the prover's.
-/
import Derived.Test.Qxb6601220aRows
import Derived.Test.Qxb6601220aUnit
import Derived.Test.Qxb6601220aHead
import Derived.WalkKit
import Derived.ProofKit
import Derived.OpenShut
import Derived.ShutString
namespace Go.Proofs.Qxb6601220a.fnUnitQuantityCoarserIsMultipleOfFiner
open Go.ChangeShapes Go.WideShapes Go.ChangeAt Go.RowKit
open Go.ChangeMaps (open_string shut_string)
set_option linter.unusedVariables false      -- a walk need not use every 'w<i>' (that an integer argument fits its kind)

theorem own : ownKnob Try.prog.godebug = none := by kernel_rfl

/-! ### STEP 1: THE WALK: the Go text returns true. -/

def RRel (a b : Nat) (t x : Value) : Prop := ∃ k : Nat, a ≤ k ∧ k ≤ b ∧ t = .int .u64 (Pl.tens (k - a)) ∧ x = .int .u8 k

set_option maxHeartbeats 1000000 in
theorem up_big (a b : Nat) (w : World) (hab : a ≤ b) (hb : b ≤ 255) (h8 : 8 < b) :
    Calls Try.prog 4 #[.int .u8 a, .int .u8 b] w fun e w' => e = .returned (.bool true) ∧ w' = w := by
  have hm : (Pl.qty b : Int) ≤ Pl.qty a := by
    have := Pl.qty_mono a (b - a)
    rw [show a + (b - a) = b from by omega] at this
    omega
  have hz : ((Pl.qty b : Int) == 0) = true := by rw [Pl.qty_big (by omega)]; rfl
  go_enter Try.func4, Try.ntmps4
  go_wp2_with (go_at_call 7; refine (unit_any _ _ (by omega)).mono ?_; rintro e w' ⟨rfl, rfl⟩)
  go_ret
  exact ⟨rfl, rfl⟩

set_option maxHeartbeats 1000000 in
theorem up_small (a b : Nat) (w : World) (hab : a ≤ b) (h8 : b ≤ 8) :
    Calls Try.prog 4 #[.int .u8 a, .int .u8 b] w fun e w' => e = .returned (.bool true) ∧ w' = w := by
  have hm : (Pl.qty b : Int) ≤ Pl.qty a := by
    have := Pl.qty_mono a (b - a)
    rw [show a + (b - a) = b from by omega] at this
    omega
  have hR : Hid (Pl.qty a / Pl.qty b = Pl.tens (b - a)) := (Pl.qty_ratio (by omega) h8).2.2
  have hp : (0 : Int) < Pl.qty b := by have := (Pl.qty_ratio (a := a) (by omega) h8).1; omega
  have hz : ((Pl.qty b : Int) == 0) = false := by simp; omega
  have hq := Pl.qty_le a
  have hrem : ((Pl.qty a : Int) % (Pl.qty b : Int) != 0) = false := by
    have := (Pl.qty_ratio (a := a) (b := b) (by omega) h8).2.1
    simp; omega
  go_enter Try.func4, Try.ntmps4
  go_wp2_with (go_at_call 7; refine (unit_any _ _ (by omega)).mono ?_; rintro e w' ⟨rfl, rfl⟩)
  go_loop [9, 10] (fun t x => RRel a b t x) (fun _ x => b - (intOf x).toNat)
  case atStart => exact ⟨a, by omega, by omega, by rw [Nat.sub_self]; rfl, rfl⟩
  case round =>
    obtain ⟨k, h1, h2, rfl, rfl⟩ := hrel
    have ht := Pl.tens_le (k := k - a) (by omega)
    by_cases hlt : k < b
    · go_wp2
      go_round
      case rel => exact ⟨k + 1, by omega, by omega, val_u64 (by rw [show k + 1 - a = (k - a) + 1 from by omega, Pl.tens]; omega), by go_num⟩
      case measure => simp [intOf]; omega
    · obtain rfl : k = b := by omega
      go_wp2
      go_ret
      exact ⟨ret_bool (quo_u64 hq hR.out), rfl⟩

set_option maxHeartbeats 1000000 in
theorem down_big (a b : Nat) (w : World) (hab : a < b) (hb : b ≤ 255) (h8 : 8 < b) :
    Calls Try.prog 4 #[.int .u8 b, .int .u8 a] w fun e w' => e = .returned (.bool true) ∧ w' = w := by
  have hm : (Pl.qty b : Int) ≤ Pl.qty a := by
    have := Pl.qty_mono a (b - a)
    rw [show a + (b - a) = b from by omega] at this
    omega
  have hz : ((Pl.qty b : Int) == 0) = true := by rw [Pl.qty_big (by omega)]; rfl
  go_enter Try.func4, Try.ntmps4
  go_wp2_with (go_at_call 7; refine (unit_any _ _ (by omega)).mono ?_; rintro e w' ⟨rfl, rfl⟩)
  go_ret
  exact ⟨rfl, rfl⟩

set_option maxHeartbeats 1000000 in
theorem down_small (a b : Nat) (w : World) (hab : a < b) (h8 : b ≤ 8) :
    Calls Try.prog 4 #[.int .u8 b, .int .u8 a] w fun e w' => e = .returned (.bool true) ∧ w' = w := by
  have hm : (Pl.qty b : Int) ≤ Pl.qty a := by
    have := Pl.qty_mono a (b - a)
    rw [show a + (b - a) = b from by omega] at this
    omega
  have hR : Hid (Pl.qty a / Pl.qty b = Pl.tens (b - a)) := (Pl.qty_ratio (by omega) h8).2.2
  have hp : (0 : Int) < Pl.qty b := by have := (Pl.qty_ratio (a := a) (by omega) h8).1; omega
  have hz : ((Pl.qty b : Int) == 0) = false := by simp; omega
  have hq := Pl.qty_le a
  have hrem : ((Pl.qty a : Int) % (Pl.qty b : Int) != 0) = false := by
    have := (Pl.qty_ratio (a := a) (b := b) (by omega) h8).2.1
    simp; omega
  go_enter Try.func4, Try.ntmps4
  go_wp2_with (go_at_call 7; refine (unit_any _ _ (by omega)).mono ?_; rintro e w' ⟨rfl, rfl⟩)
  go_loop [9, 10] (fun t x => RRel a b t x) (fun _ x => b - (intOf x).toNat)
  case atStart => exact ⟨a, by omega, by omega, by rw [Nat.sub_self]; rfl, rfl⟩
  case round =>
    obtain ⟨k, h1, h2, rfl, rfl⟩ := hrel
    have ht := Pl.tens_le (k := k - a) (by omega)
    by_cases hlt : k < b
    · go_wp2
      go_round
      case rel => exact ⟨k + 1, by omega, by omega, val_u64 (by rw [show k + 1 - a = (k - a) + 1 from by omega, Pl.tens]; omega), by go_num⟩
      case measure => simp [intOf]; omega
    · obtain rfl : k = b := by omega
      go_wp2
      go_ret
      exact ⟨ret_bool (quo_u64 hq hR.out), rfl⟩

theorem walk (a0 : Int) (a1 : Int) (w0 : (Lit.int .u8 a0).wf = true) (w1 : (Lit.int .u8 a1).wf = true) (w : World) :
    Calls Try.prog 4 #[.int .u8 a0, .int .u8 a1] w fun e w' => e = .returned (.bool true) ∧ Grown w w' := by
  obtain ⟨p0, q0⟩ := bounds_u8 w0
  obtain ⟨p1, q1⟩ := bounds_u8 w1
  obtain ⟨a, rfl⟩ := Int.eq_ofNat_of_zero_le p0
  obtain ⟨b, rfl⟩ := Int.eq_ofNat_of_zero_le p1
  have fin : Calls Try.prog 4 #[.int .u8 (a : Int), .int .u8 (b : Int)] w fun e w' => e = .returned (.bool true) ∧ w' = w := by
    by_cases hab : a ≤ b
    · by_cases h8 : b ≤ 8
      · exact up_small a b w hab h8
      · exact up_big a b w hab (by omega) (by omega)
    · by_cases h8 : a ≤ 8
      · exact down_small b a w (by omega) h8
      · exact down_big b a w (by omega) (by omega) (by omega)
  refine fin.mono ?_
  rintro e w' ⟨rfl, rfl⟩
  exact ⟨rfl, Grown.refl _⟩

/-! ### THE ROW's STEP: WRITTEN OUT: LEAVE IT -/
set_option maxRecDepth 100000 in
theorem lifted (os : Os) (started : os.Started) (H : Type) (enc : TypeId × Value → H) :
    ReturnsInHanded {} Try.checked os 4 .any (Rows.fnUnitQuantityCoarserIsMultipleOfFinerSpec.pre6 enc Try.prog Try.f4 Rows.fnUnitQuantityCoarserIsMultipleOfFinerRow.domain false) (Rows.fnUnitQuantityCoarserIsMultipleOfFinerSpec.post enc Try.prog Try.f4 false true false false) := by
  refine returnsInHanded_of_change (C := Try.checked) own started (by kernel_rfl) Try.func4
    (ChangeSpec.witness6 (enc := enc) (C := Try.checked) false ⟨#[], #[.int .u8 0, .int .u8 0], []⟩ 8 (by kernel_rfl) (by kernel_rfl) (by kernel_rfl) (by kernel_rfl)) ?_
  intro W base args ds gs before hval0 hW hcnd _
  have hval : ∀ (j : Nat) t v, Try.f4.params[j]? = some t → args[j]? = some v → Value.okWide Try.prog W .any base t v := hval0
  have hW' := hW
  obtain ⟨p, q, hA0, hV, rfl, hfz, hnd⟩ := hW
  have hA : DataW.TrodAll enc Try.prog W 0 (fun _ => true) true Try.f4.params.toList args.toList ds p := hA0
  rw [Try.params4] at hA hval
  obtain ⟨v0, vs0, d0, ds0, p0, q0, hargs, rfl, rfl, h0, r0⟩ := trodAll_cons hA
  obtain ⟨v1, vs1, d1, ds1, p1, q1, rfl, rfl, rfl, h1, r1⟩ := trodAll_cons r0
  obtain ⟨rfl, rfl, rfl⟩ := trodAll_nil r1
  obtain rfl : args = #[v0, v1] := by cases args; simp_all
  obtain ⟨rfl, rfl⟩ := trodVars_none hV
  obtain ⟨a0, rfl, rfl, rfl, w0⟩ := open_int Try.underlying5 (hval 0 5 v0 rfl rfl) h0
  obtain ⟨a1, rfl, rfl, rfl, w1⟩ := open_int Try.underlying5 (hval 1 5 v1 rfl rfl) h1
  clear hA0 hval0
  simp only [List.append_nil] at hW'
  refine (walk a0 a1 w0 w1 W).mono fun e W' ⟨he, hg⟩ => ?_
  subst he
  exact ⟨_, rfl, post_of_same (pa := []) (pv := []) hW' (fun _ _ _ => (trodAll_cons_mk (shut_bool Try.underlying4 _) trodAll_mk0)) (fun sp _ => (trodAll_cons_mk (shut_int Try.underlying5 w0) (trodAll_cons_mk (shut_int Try.underlying5 w1) trodAll_mk0))) (fun _ _ => rfl) rfl
    (hg.frame _) hg.2.1 (ok_one (by kernel_rfl) rfl (okWide_bool_mk Try.underlying4 _))⟩

/-- the row's closed facts, one by one (the three that read the dump's head: Qxb6601220aHead) -/
theorem closed : joinedFacts Try.pinned.checked.prog 4 Try.f4 Rows.fnUnitQuantityCoarserIsMultipleOfFinerSpec Rows.fnUnitQuantityCoarserIsMultipleOfFinerRow = true := by
  unfold joinedFacts
  exact (Hd.and_of (Hd.and_of (Hd.and_of (Hd.and_of (Hd.and_of (Hd.and_of (Hd.and_of (Hd.and_of (Hd.and_of (Hd.and_of (Hd.and_of (Hd.and_of (Hd.and_of (Hd.and_of (Hd.and_of (Hd.and_of (Hd.and_of (Hd.and_of (Hd.and_of (Hd.and_of (Hd.and_of (Hd.and_of (Hd.and_of (Hd.and_of (Hd.and_of (Hd.and_of (Hd.and_of (Hd.and_of (Hd.and_of (Hd.and_of (Hd.and_of (by as_aux_lemma => kernel_rfl) (by as_aux_lemma => kernel_rfl)) (by as_aux_lemma => kernel_rfl)) (by as_aux_lemma => kernel_rfl)) (by as_aux_lemma => kernel_rfl)) (by as_aux_lemma => kernel_rfl)) (by as_aux_lemma => kernel_rfl)) (by as_aux_lemma => kernel_rfl)) (by as_aux_lemma => kernel_rfl)) (by as_aux_lemma => kernel_rfl)) (by as_aux_lemma => kernel_rfl)) (by as_aux_lemma => kernel_rfl)) (by as_aux_lemma => kernel_rfl)) (by as_aux_lemma => kernel_rfl)) (by as_aux_lemma => kernel_rfl)) (by as_aux_lemma => kernel_rfl)) (by as_aux_lemma => kernel_rfl)) (by as_aux_lemma => kernel_rfl)) (by as_aux_lemma => kernel_rfl)) (by as_aux_lemma => kernel_rfl)) (by as_aux_lemma => kernel_rfl)) (by as_aux_lemma => kernel_rfl)) (by as_aux_lemma => kernel_rfl)) (by as_aux_lemma => kernel_rfl)) (by as_aux_lemma => kernel_rfl)) Hd.enter) Hd.lifts_eq) Hd.make_eq) (by as_aux_lemma => kernel_rfl)) (by as_aux_lemma => kernel_rfl)) (by as_aux_lemma => kernel_rfl)) (by as_aux_lemma => kernel_rfl))

theorem over : Rows.fnUnitQuantityCoarserIsMultipleOfFinerRow.holds Try.pinned (OpenSpec.ofChange Rows.fnUnitQuantityCoarserIsMultipleOfFinerSpec) :=
  OpenClaim.holds_of_wide 4 Try.f4 rfl rfl rfl rfl rfl rfl rfl ⟨rfl, rfl, rfl, rfl, rfl⟩ rfl rfl rfl rfl rfl (by kernel_rfl) Try.func4 closed
    (of_decide_eq_true (by kernel_rfl)) (by unfold Func.isWrapper; first | (rw [if_pos (by decide +kernel)]; kernel_rfl) | (rw [if_neg (by decide +kernel)]; exact ⟨rfl, rfl⟩))
    (fun os started H enc _ => lifted os started H enc)

/-- ████ THE STATEMENT ████ -/
theorem proved : Rows.FnUnitQuantityCoarserIsMultipleOfFinerSaid :=
  over
#print axioms proved
end Go.Proofs.Qxb6601220a.fnUnitQuantityCoarserIsMultipleOfFiner
