/-
  A PROOF OF 'Rows.FnUnitQuantityCaseTableSaid' (the Go function FnUnitQuantityCaseTable): the frame was written by program (proof-skeleton.mjs); the walk and the closed facts are the prover's.
-/
import Derived.Test.Qxb6601220aRows
import Derived.Test.Qxb6601220aUnit
import Derived.Test.Qxb6601220aHead
import Derived.WalkKit
import Derived.ProofKit
import Derived.OpenShut
import Derived.ShutString
namespace Go.Proofs.Qxb6601220a.fnUnitQuantityCaseTable
open Go.ChangeShapes Go.WideShapes Go.ChangeAt Go.RowKit
open Go.ChangeMaps (open_string shut_string)
set_option linter.unusedVariables false      -- a walk need not use every 'w<i>' (that an integer argument fits its kind)

theorem own : ownKnob Try.prog.godebug = none := by kernel_rfl

/-! ### STEP 1: THE WALK: the Go text returns true. -/
set_option maxHeartbeats 1000000 in
theorem table_any (u : Nat) (w : World) :
    Calls Try.prog 8 #[.int .u8 u] w fun e w' => e = .returned (.int .u64 (Pl.qty u)) ∧ w' = w := by
  by_cases h : u ≤ 8
  · have hc : u = 0 ∨ u = 1 ∨ u = 2 ∨ u = 3 ∨ u = 4 ∨ u = 5 ∨ u = 6 ∨ u = 7 ∨ u = 8 := by omega
    rcases hc with rfl | rfl | rfl | rfl | rfl | rfl | rfl | rfl | rfl
    all_goals
      go_enter Try.func8, Try.ntmps8
      go_wp2
      go_ret
      exact ⟨ret_int (by decide), rfl⟩
  · have hq : Hid (Pl.qty u = 0) := Pl.qty_big (by omega)
    go_enter Try.func8, Try.ntmps8
    go_wp2
    go_ret
    exact ⟨ret_int (by rw [hq.out]; rfl), rfl⟩

set_option maxHeartbeats 1000000 in
theorem walk (a0 : Int) (w0 : (Lit.int .u8 a0).wf = true) (w : World) :
    Calls Try.prog 3 #[.int .u8 a0] w fun e w' => e = .returned (.bool true) ∧ Grown w w' := by
  obtain ⟨p0, q0⟩ := bounds_u8 w0
  obtain ⟨u, rfl⟩ := Int.eq_ofNat_of_zero_le p0
  clear w0
  go_enter Try.func3, Try.ntmps3
  go_wp2_with (first | (go_at_call 7; refine (unit_any _ _ (by omega)).mono ?_; rintro e w' ⟨rfl, rfl⟩) | (go_at_call 8; refine (table_any _ _).mono ?_; rintro e w' ⟨rfl, rfl⟩))
  go_ret
  exact ⟨ret_bool (by simp), Grown.refl _⟩

/-! ### THE ROW's STEP: WRITTEN OUT: LEAVE IT -/
set_option maxRecDepth 100000 in
theorem lifted (os : Os) (started : os.Started) (H : Type) (enc : TypeId × Value → H) :
    ReturnsInHanded {} Try.checked os 3 .any (Rows.fnUnitQuantityCaseTableSpec.pre6 enc Try.prog Try.f3 Rows.fnUnitQuantityCaseTableRow.domain false) (Rows.fnUnitQuantityCaseTableSpec.post enc Try.prog Try.f3 false true false false) := by
  refine returnsInHanded_of_change (C := Try.checked) own started (by kernel_rfl) Try.func3
    (ChangeSpec.witness6 (enc := enc) (C := Try.checked) false ⟨#[], #[.int .u8 0], []⟩ 8 (by kernel_rfl) (by kernel_rfl) (by kernel_rfl) (by kernel_rfl)) ?_
  intro W base args ds gs before hval0 hW hcnd _
  have hval : ∀ (j : Nat) t v, Try.f3.params[j]? = some t → args[j]? = some v → Value.okWide Try.prog W .any base t v := hval0
  have hW' := hW
  obtain ⟨p, q, hA0, hV, rfl, hfz, hnd⟩ := hW
  have hA : DataW.TrodAll enc Try.prog W 0 (fun _ => true) true Try.f3.params.toList args.toList ds p := hA0
  rw [Try.params3] at hA hval
  obtain ⟨v0, vs0, d0, ds0, p0, q0, hargs, rfl, rfl, h0, r0⟩ := trodAll_cons hA
  obtain ⟨rfl, rfl, rfl⟩ := trodAll_nil r0
  obtain rfl : args = #[v0] := by cases args; simp_all
  obtain ⟨rfl, rfl⟩ := trodVars_none hV
  obtain ⟨a0, rfl, rfl, rfl, w0⟩ := open_int Try.underlying5 (hval 0 5 v0 rfl rfl) h0
  clear hA0 hval0
  simp only [List.append_nil] at hW'
  refine (walk a0 w0 W).mono fun e W' ⟨he, hg⟩ => ?_
  subst he
  exact ⟨_, rfl, post_of_same (pa := []) (pv := []) hW' (fun _ _ _ => (trodAll_cons_mk (shut_bool Try.underlying4 _) trodAll_mk0)) (fun sp _ => (trodAll_cons_mk (shut_int Try.underlying5 w0) trodAll_mk0)) (fun _ _ => rfl) rfl
    (hg.frame _) hg.2.1 (ok_one (by kernel_rfl) rfl (okWide_bool_mk Try.underlying4 _))⟩

/-- the row's closed facts, one by one (the three that read the dump's head: Qxb6601220aHead) -/
theorem closed : joinedFacts Try.pinned.checked.prog 3 Try.f3 Rows.fnUnitQuantityCaseTableSpec Rows.fnUnitQuantityCaseTableRow = true := by
  unfold joinedFacts
  exact (Hd.and_of (Hd.and_of (Hd.and_of (Hd.and_of (Hd.and_of (Hd.and_of (Hd.and_of (Hd.and_of (Hd.and_of (Hd.and_of (Hd.and_of (Hd.and_of (Hd.and_of (Hd.and_of (Hd.and_of (Hd.and_of (Hd.and_of (Hd.and_of (Hd.and_of (Hd.and_of (Hd.and_of (Hd.and_of (Hd.and_of (Hd.and_of (Hd.and_of (Hd.and_of (Hd.and_of (Hd.and_of (Hd.and_of (Hd.and_of (Hd.and_of (by as_aux_lemma => kernel_rfl) (by as_aux_lemma => kernel_rfl)) (by as_aux_lemma => kernel_rfl)) (by as_aux_lemma => kernel_rfl)) (by as_aux_lemma => kernel_rfl)) (by as_aux_lemma => kernel_rfl)) (by as_aux_lemma => kernel_rfl)) (by as_aux_lemma => kernel_rfl)) (by as_aux_lemma => kernel_rfl)) (by as_aux_lemma => kernel_rfl)) (by as_aux_lemma => kernel_rfl)) (by as_aux_lemma => kernel_rfl)) (by as_aux_lemma => kernel_rfl)) (by as_aux_lemma => kernel_rfl)) (by as_aux_lemma => kernel_rfl)) (by as_aux_lemma => kernel_rfl)) (by as_aux_lemma => kernel_rfl)) (by as_aux_lemma => kernel_rfl)) (by as_aux_lemma => kernel_rfl)) (by as_aux_lemma => kernel_rfl)) (by as_aux_lemma => kernel_rfl)) (by as_aux_lemma => kernel_rfl)) (by as_aux_lemma => kernel_rfl)) (by as_aux_lemma => kernel_rfl)) (by as_aux_lemma => kernel_rfl)) Hd.enter) Hd.lifts_eq) Hd.make_eq) (by as_aux_lemma => kernel_rfl)) (by as_aux_lemma => kernel_rfl)) (by as_aux_lemma => kernel_rfl)) (by as_aux_lemma => kernel_rfl))

theorem over : Rows.fnUnitQuantityCaseTableRow.holds Try.pinned (OpenSpec.ofChange Rows.fnUnitQuantityCaseTableSpec) :=
  OpenClaim.holds_of_wide 3 Try.f3 rfl rfl rfl rfl rfl rfl rfl ⟨rfl, rfl, rfl, rfl, rfl⟩ rfl rfl rfl rfl rfl (by kernel_rfl) Try.func3 closed
    (of_decide_eq_true (by kernel_rfl)) (by unfold Func.isWrapper; first | (rw [if_pos (by decide +kernel)]; kernel_rfl) | (rw [if_neg (by decide +kernel)]; exact ⟨rfl, rfl⟩))
    (fun os started H enc _ => lifted os started H enc)

/-- ████ THE STATEMENT ████ -/
theorem proved : Rows.FnUnitQuantityCaseTableSaid :=
  over
#print axioms proved
end Go.Proofs.Qxb6601220a.fnUnitQuantityCaseTable
