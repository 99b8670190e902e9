/-
  A PROOF OF 'Rows.FnDestinationPrefixesSaid' (the Go function FnDestinationPrefixes): the frame was written by program (proof-skeleton.mjs); the walk and the closed facts are the prover's.
-/
import Derived.Test.Qxb6601606aRows
import Derived.Test.Qxb6601606aDestShape
import Derived.Test.Qxb6601606aHead
import Derived.WalkKit
import Derived.ProofKit
import Derived.OpenShut
import Derived.ShutString
namespace Go.Proofs.Qxb6601606a.fnDestinationPrefixes
open Go.ChangeShapes Go.WideShapes Go.ChangeAt Go.RowKit
open Go.ChangeMaps (open_string shut_string)
set_option linter.unusedVariables false      -- a walk need not use every 'w<i>' (that an integer argument fits its kind)

theorem own : ownKnob Try.prog.godebug = none := by kernel_rfl

/-! ### STEP 1: THE WALK: the Go text returns true. -/
theorem bytes_yes (a0 : ByteArray) (a1 a2 : Int) (w : World) (h : a0.size ≤ 1048576) :
    Calls Try.prog 21 #[.string a0, .int .i64 a1, .int .i64 a2] w fun e w' => e = .returned (.bool true) ∧ w' = w := by
  go_enter Try.func21, Try.ntmps21
  go_wp2
  go_ret
  exact ⟨rfl, rfl⟩

theorem bytes_no (a0 : ByteArray) (a1 a2 : Int) (w : World) (h : 1048576 < a0.size) :
    Calls Try.prog 21 #[.string a0, .int .i64 a1, .int .i64 a2] w fun e w' => e = .returned (.bool false) ∧ w' = w := by
  go_enter Try.func21, Try.ntmps21
  go_wp2
  go_ret
  exact ⟨rfl, rfl⟩

set_option maxHeartbeats 1000000 in
theorem walk_in (s : ByteArray) (i m : Nat) (hs : s.size ≤ 1048576) (him : i ≤ m) (hms : m ≤ s.size) (w : World) :
    Calls Try.prog 8 #[.string s, .int .i64 i, .int .i64 m] w fun e w' => e = .returned (.bool true) ∧ w' = w := by
  have hcg : Hid (Pl.dest (Pl.bt (s.extract 0 m)) m i = Pl.dest (Pl.bt s) m i) :=
    Pl.dest_congr _ _ _ _ him (fun j hj => Pl.bt_extract s m j hms hj)
  have hF : Hid (Pl.DForm (Pl.bt s) s.size i (Pl.dest (Pl.bt s) s.size i)) := Pl.dest_form _ _ _ (by omega)
  have hz : (s.extract 0 m).size = m := by simp; omega
  have hG : Hid (Pl.DForm (Pl.bt (s.extract 0 m)) (s.extract 0 m).size i (Pl.dest (Pl.bt (s.extract 0 m)) m i)) := by
    have := Pl.dest_form (Pl.bt (s.extract 0 m)) (s.extract 0 m).size i (by omega)
    rw [hz] at this
    rw [hz]
    exact this
  have hb := Pl.dest_bd (Pl.bt s) s.size i (by omega)
  by_cases hr : 0 ≤ Pl.dest (Pl.bt s) s.size i
  · have hr1 : (Pl.dest (Pl.bt s) s.size i == -1) = false := by simp; omega
    by_cases hm : Pl.dest (Pl.bt s) s.size i ≤ (m : Int)
    · have hq : Hid (Pl.dest (Pl.bt (s.extract 0 m)) m i = Pl.dest (Pl.bt s) s.size i) := by
        show _ = _
        rw [hcg.out, Pl.dest_prefix _ s.size m i him hms hr hm]
      go_enter Try.func8, Try.ntmps8
      go_wp2_with (first | (go_at_call 21; refine (bytes_yes _ _ _ _ hs).mono ?_; rintro e w' ⟨rfl, rfl⟩) | (go_at_call 18; refine (zzdest_any _ _ _ (by omega) (by omega)).mono ?_; rintro e w' ⟨rfl, rfl⟩))
      refine (dshape_any s i _ _ (by omega) (by omega) hF.out).mono ?_
      rintro e w' ⟨rfl, rfl⟩
      go_wp2_with fail
      refine (dshape_any (s.extract 0 m) i _ _ (by omega) (by omega) hG.out).mono ?_
      rintro e w' ⟨rfl, rfl⟩
      go_wp2
      go_ret
      exact ⟨ret_bool (by rw [hq.out]; simp), rfl⟩
    · go_enter Try.func8, Try.ntmps8
      go_wp2_with (first | (go_at_call 21; refine (bytes_yes _ _ _ _ hs).mono ?_; rintro e w' ⟨rfl, rfl⟩) | (go_at_call 18; refine (zzdest_any _ _ _ (by omega) (by omega)).mono ?_; rintro e w' ⟨rfl, rfl⟩))
      refine (dshape_any s i _ _ (by omega) (by omega) hF.out).mono ?_
      rintro e w' ⟨rfl, rfl⟩
      go_wp2_with fail
      refine (dshape_any (s.extract 0 m) i _ _ (by omega) (by omega) hG.out).mono ?_
      rintro e w' ⟨rfl, rfl⟩
      go_wp2
      go_ret
      exact ⟨rfl, rfl⟩
  · have hr1 : (Pl.dest (Pl.bt s) s.size i == -1) = true := by simp; omega
    by_cases hlt : i < m
    · by_cases h60 : ((s[i].toNat : Int) == 60) = true
      · have hq : (Pl.dest (Pl.bt (s.extract 0 m)) m i == -1) = true := by
          have e1 : Pl.dest (Pl.bt s) s.size i = -1 := by simpa using hr1
          have e2 : Pl.bt s i = 60 := (Pl.bt_of s i (by omega)).symm.trans (Pl.eqB h60)
          rw [hcg.out, Pl.dest_none _ s.size m i hlt hms e2 e1]
          rfl
        go_enter Try.func8, Try.ntmps8
        go_wp2_with (first | (go_at_call 21; refine (bytes_yes _ _ _ _ hs).mono ?_; rintro e w' ⟨rfl, rfl⟩) | (go_at_call 18; refine (zzdest_any _ _ _ (by omega) (by omega)).mono ?_; rintro e w' ⟨rfl, rfl⟩))
        refine (dshape_any s i _ _ (by omega) (by omega) hF.out).mono ?_
        rintro e w' ⟨rfl, rfl⟩
        go_wp2_with fail
        refine (dshape_any (s.extract 0 m) i _ _ (by omega) (by omega) hG.out).mono ?_
        rintro e w' ⟨rfl, rfl⟩
        go_wp2
        go_ret
        exact ⟨rfl, rfl⟩
      · have h60' : ((s[i].toNat : Int) == 60) = false := by simpa using h60
        clear h60
        go_enter Try.func8, Try.ntmps8
        go_wp2_with (first | (go_at_call 21; refine (bytes_yes _ _ _ _ hs).mono ?_; rintro e w' ⟨rfl, rfl⟩) | (go_at_call 18; refine (zzdest_any _ _ _ (by omega) (by omega)).mono ?_; rintro e w' ⟨rfl, rfl⟩))
        refine (dshape_any s i _ _ (by omega) (by omega) hF.out).mono ?_
        rintro e w' ⟨rfl, rfl⟩
        go_wp2_with fail
        refine (dshape_any (s.extract 0 m) i _ _ (by omega) (by omega) hG.out).mono ?_
        rintro e w' ⟨rfl, rfl⟩
        go_wp2
        go_ret
        exact ⟨rfl, rfl⟩
    · go_enter Try.func8, Try.ntmps8
      go_wp2_with (first | (go_at_call 21; refine (bytes_yes _ _ _ _ hs).mono ?_; rintro e w' ⟨rfl, rfl⟩) | (go_at_call 18; refine (zzdest_any _ _ _ (by omega) (by omega)).mono ?_; rintro e w' ⟨rfl, rfl⟩))
      refine (dshape_any s i _ _ (by omega) (by omega) hF.out).mono ?_
      rintro e w' ⟨rfl, rfl⟩
      go_wp2_with fail
      refine (dshape_any (s.extract 0 m) i _ _ (by omega) (by omega) hG.out).mono ?_
      rintro e w' ⟨rfl, rfl⟩
      go_wp2
      go_ret
      exact ⟨rfl, rfl⟩

theorem walk (a0 : ByteArray) (a1 : Int) (a2 : Int) (w0 : a0.size ≤ maxLen) (w1 : (Lit.int .i64 a1).wf = true) (w2 : (Lit.int .i64 a2).wf = true) (w : World) :
    Calls Try.prog 8 #[.string a0, .int .i64 a1, .int .i64 a2] w fun e w' => e = .returned (.bool true) ∧ Grown w w' := by
  unfold maxLen at w0
  by_cases hsum : a0.size ≤ 1048576
  · by_cases hneg : a1 < 0
    · go_enter Try.func8, Try.ntmps8
      go_wp2_with (go_at_call 21; refine (bytes_yes _ _ _ _ hsum).mono ?_; rintro e w' ⟨rfl, rfl⟩)
      go_ret
      exact ⟨rfl, Grown.refl _⟩
    · by_cases hgt : a2 < a1
      · go_enter Try.func8, Try.ntmps8
        go_wp2_with (go_at_call 21; refine (bytes_yes _ _ _ _ hsum).mono ?_; rintro e w' ⟨rfl, rfl⟩)
        go_ret
        exact ⟨rfl, Grown.refl _⟩
      · by_cases hbig : (a0.size : Int) < a2
        · go_enter Try.func8, Try.ntmps8
          go_wp2_with (go_at_call 21; refine (bytes_yes _ _ _ _ hsum).mono ?_; rintro e w' ⟨rfl, rfl⟩)
          go_ret
          exact ⟨rfl, Grown.refl _⟩
        · obtain ⟨i, rfl⟩ := Int.eq_ofNat_of_zero_le (Int.not_lt.1 hneg)
          obtain ⟨m, rfl⟩ := Int.eq_ofNat_of_zero_le (show 0 ≤ a2 by omega)
          refine (walk_in a0 i m hsum (by omega) (by omega) w).mono ?_
          rintro e w' ⟨rfl, rfl⟩
          exact ⟨rfl, Grown.refl _⟩
  · go_enter Try.func8, Try.ntmps8
    go_wp2_with (go_at_call 21; refine (bytes_no _ _ _ _ (by omega)).mono ?_; rintro e w' ⟨rfl, rfl⟩)
    go_ret
    exact ⟨rfl, Grown.refl _⟩

/-! ### THE ROW's STEP: WRITTEN OUT: LEAVE IT -/
set_option maxRecDepth 100000 in
theorem lifted (os : Os) (started : os.Started) (H : Type) (enc : TypeId × Value → H) :
    ReturnsInHanded {} Try.checked os 8 .any (Rows.fnDestinationPrefixesSpec.pre6 enc Try.prog Try.f8 Rows.fnDestinationPrefixesRow.domain false) (Rows.fnDestinationPrefixesSpec.post enc Try.prog Try.f8 false true false false) := by
  refine returnsInHanded_of_change (C := Try.checked) own started (by kernel_rfl) Try.func8
    (ChangeSpec.witness6 (enc := enc) (C := Try.checked) false ⟨#[], #[.string ByteArray.empty, .int .i64 0, .int .i64 0], []⟩ 8 (by kernel_rfl) (by kernel_rfl) (by kernel_rfl) (by kernel_rfl)) ?_
  intro W base args ds gs before hval0 hW hcnd _
  have hval : ∀ (j : Nat) t v, Try.f8.params[j]? = some t → args[j]? = some v → Value.okWide Try.prog W .any base t v := hval0
  have hW' := hW
  obtain ⟨p, q, hA0, hV, rfl, hfz, hnd⟩ := hW
  have hA : DataW.TrodAll enc Try.prog W 0 (fun _ => true) true Try.f8.params.toList args.toList ds p := hA0
  rw [Try.params8] at hA hval
  obtain ⟨v0, vs0, d0, ds0, p0, q0, hargs, rfl, rfl, h0, r0⟩ := trodAll_cons hA
  obtain ⟨v1, vs1, d1, ds1, p1, q1, rfl, rfl, rfl, h1, r1⟩ := trodAll_cons r0
  obtain ⟨v2, vs2, d2, ds2, p2, q2, rfl, rfl, rfl, h2, r2⟩ := trodAll_cons r1
  obtain ⟨rfl, rfl, rfl⟩ := trodAll_nil r2
  obtain rfl : args = #[v0, v1, v2] := by cases args; simp_all
  obtain ⟨rfl, rfl⟩ := trodVars_none hV
  obtain ⟨a0, rfl, rfl, rfl, w0⟩ := open_string Try.underlying9 (hval 0 9 v0 rfl rfl) h0
  obtain ⟨a1, rfl, rfl, rfl, w1⟩ := open_int Try.underlying3 (hval 1 3 v1 rfl rfl) h1
  obtain ⟨a2, rfl, rfl, rfl, w2⟩ := open_int Try.underlying3 (hval 2 3 v2 rfl rfl) h2
  clear hA0 hval0
  simp only [List.append_nil] at hW'
  refine (walk a0 a1 a2 w0 w1 w2 W).mono fun e W' ⟨he, hg⟩ => ?_
  subst he
  exact ⟨_, rfl, post_of_same (pa := []) (pv := []) hW' (fun _ _ _ => (trodAll_cons_mk (shut_bool Try.underlying4 _) trodAll_mk0)) (fun sp _ => (trodAll_cons_mk (shut_string Try.underlying9 w0) (trodAll_cons_mk (shut_int Try.underlying3 w1) (trodAll_cons_mk (shut_int Try.underlying3 w2) trodAll_mk0)))) (fun _ _ => rfl) rfl
    (hg.frame _) hg.2.1 (ok_one (by kernel_rfl) rfl (okWide_bool_mk Try.underlying4 _))⟩

/-- the row's closed facts, one by one (the three that read the dump's head: Qxb6601606aHead) -/
theorem closed : joinedFacts Try.pinned.checked.prog 8 Try.f8 Rows.fnDestinationPrefixesSpec Rows.fnDestinationPrefixesRow = true := by
  unfold joinedFacts
  exact (Hd.and_of (Hd.and_of (Hd.and_of (Hd.and_of (Hd.and_of (Hd.and_of (Hd.and_of (Hd.and_of (Hd.and_of (Hd.and_of (Hd.and_of (Hd.and_of (Hd.and_of (Hd.and_of (Hd.and_of (Hd.and_of (Hd.and_of (Hd.and_of (Hd.and_of (Hd.and_of (Hd.and_of (Hd.and_of (Hd.and_of (Hd.and_of (Hd.and_of (Hd.and_of (Hd.and_of (Hd.and_of (Hd.and_of (Hd.and_of (Hd.and_of (by as_aux_lemma => kernel_rfl) (by as_aux_lemma => kernel_rfl)) (by as_aux_lemma => kernel_rfl)) (by as_aux_lemma => kernel_rfl)) (by as_aux_lemma => kernel_rfl)) (by as_aux_lemma => kernel_rfl)) (by as_aux_lemma => kernel_rfl)) (by as_aux_lemma => kernel_rfl)) (by as_aux_lemma => kernel_rfl)) (by as_aux_lemma => kernel_rfl)) (by as_aux_lemma => kernel_rfl)) (by as_aux_lemma => kernel_rfl)) (by as_aux_lemma => kernel_rfl)) (by as_aux_lemma => kernel_rfl)) (by as_aux_lemma => kernel_rfl)) (by as_aux_lemma => kernel_rfl)) (by as_aux_lemma => kernel_rfl)) (by as_aux_lemma => kernel_rfl)) (by as_aux_lemma => kernel_rfl)) (by as_aux_lemma => kernel_rfl)) (by as_aux_lemma => kernel_rfl)) (by as_aux_lemma => kernel_rfl)) (by as_aux_lemma => kernel_rfl)) (by as_aux_lemma => kernel_rfl)) (by as_aux_lemma => kernel_rfl)) Hd.enter) Hd.lifts_eq) Hd.make_eq) (by as_aux_lemma => kernel_rfl)) (by as_aux_lemma => kernel_rfl)) (by as_aux_lemma => kernel_rfl)) (by as_aux_lemma => kernel_rfl))

theorem over : Rows.fnDestinationPrefixesRow.holds Try.pinned (OpenSpec.ofChange Rows.fnDestinationPrefixesSpec) :=
  OpenClaim.holds_of_wide 8 Try.f8 rfl rfl rfl rfl rfl rfl rfl ⟨rfl, rfl, rfl, rfl, rfl⟩ rfl rfl rfl rfl rfl (by kernel_rfl) Try.func8 closed
    (of_decide_eq_true (by kernel_rfl)) (by unfold Func.isWrapper; first | (rw [if_pos (by decide +kernel)]; kernel_rfl) | (rw [if_neg (by decide +kernel)]; exact ⟨rfl, rfl⟩))
    (fun os started H enc _ => lifted os started H enc)

/-- ████ THE STATEMENT ████ -/
theorem proved : Rows.FnDestinationPrefixesSaid :=
  over
#print axioms proved
end Go.Proofs.Qxb6601606a.fnDestinationPrefixes
