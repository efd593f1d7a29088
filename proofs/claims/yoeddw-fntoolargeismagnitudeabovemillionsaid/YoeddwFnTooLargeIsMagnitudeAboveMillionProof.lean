/-
  'Rows.FnTooLargeIsMagnitudeAboveMillionSaid', proved: the given shell (by program), its walk filled out of the leaves' contracts (YoeddwLeaves).
-/
import Derived.Test.YoeddwRows
import Derived.Test.YoeddwLeaves
import Derived.WalkKit
import Derived.ProofKit
import Derived.OpenShut
import Derived.ShutString
namespace Go.Proofs.Yoeddw.fnTooLargeIsMagnitudeAboveMillion
open Go.ChangeShapes Go.WideShapes Go.ChangeAt Go.RowKit
open Go.ChangeMaps (open_string shut_string)
set_option linter.unusedVariables false      -- a walk need not use every 'w<i>' (that an integer argument fits its kind)

theorem own : ownKnob Eddg.prog.godebug = none := by kernel_rfl

/-! ### STEP 1: THE WALK: the Go text returns true. 'Grown w w'': the world has at most new blocks (Derived/RowKit3.lean). Part the cases AHEAD of 'go_enter' where a test parts the walk; take each callee by a contract of your own. -/
theorem walk (a0 : Int) (w0 : (Lit.int .i64 a0).wf = true) (w : World) :
    Calls Eddg.prog 3 #[.int .i64 a0] w fun e w' => e = .returned (.bool true) ∧ Grown w w' := by
  have hb := bounds_i64 w0
  by_cases h : big a0 = true
  · have hm : 1000000 < mag a0 := by
      simp only [big, decide_eq_true_eq] at h
      unfold mag; split <;> omega
    go_enter Eddg.func3, Eddg.ntmps3
    go_wp2_with (first | (go_at_call 5; refine (zzTooLarge_any _ _).mono ?_; rintro e w' ⟨rfl, rfl⟩) | (go_at_call 6; refine (zzMag_any _ (by omega) (by omega) _).mono ?_; rintro e w' ⟨rfl, rfl⟩))
    go_ret
    exact ⟨rfl, Grown.refl _⟩
  · have h' : big a0 = false := by simpa using h
    have hm : ¬ 1000000 < mag a0 := by
      simp only [big, decide_eq_false_iff_not] at h'
      unfold mag; split <;> omega
    clear h
    go_enter Eddg.func3, Eddg.ntmps3
    go_wp2_with (first | (go_at_call 5; refine (zzTooLarge_any _ _).mono ?_; rintro e w' ⟨rfl, rfl⟩) | (go_at_call 6; refine (zzMag_any _ (by omega) (by omega) _).mono ?_; rintro e w' ⟨rfl, rfl⟩))
    go_ret
    exact ⟨ret_bool (show (!decide (1000000 < mag a0)) = true by rw [decide_eq_false (by omega)]; rfl), Grown.refl _⟩

/-! ### THE ROW's STEP: WRITTEN OUT: LEAVE IT -/
set_option maxRecDepth 100000 in
theorem lifted (os : Os) (started : os.Started) (H : Type) (enc : TypeId × Value → H) :
    ReturnsInHanded {} Eddg.checked os 3 .any (Rows.fnTooLargeIsMagnitudeAboveMillionSpec.pre6 enc Eddg.prog Eddg.f3 Rows.fnTooLargeIsMagnitudeAboveMillionRow.domain false) (Rows.fnTooLargeIsMagnitudeAboveMillionSpec.post enc Eddg.prog Eddg.f3 false true false false) := by
  refine returnsInHanded_of_change (C := Eddg.checked) own started (by kernel_rfl) Eddg.func3
    (ChangeSpec.witness6 (enc := enc) (C := Eddg.checked) false ⟨#[], #[.int .i64 0], []⟩ 8 (by kernel_rfl) (by kernel_rfl) (by kernel_rfl) (by kernel_rfl)) ?_
  intro W base args ds gs before hval0 hW hcnd _
  have hval : ∀ (j : Nat) t v, Eddg.f3.params[j]? = some t → args[j]? = some v → Value.okWide Eddg.prog W .any base t v := hval0
  have hW' := hW
  obtain ⟨p, q, hA0, hV, rfl, hfz, hnd⟩ := hW
  have hA : DataW.TrodAll enc Eddg.prog W 0 (fun _ => true) true Eddg.f3.params.toList args.toList ds p := hA0
  rw [Eddg.params3] at hA hval
  obtain ⟨v0, vs0, d0, ds0, p0, q0, hargs, rfl, rfl, h0, r0⟩ := trodAll_cons hA
  obtain ⟨rfl, rfl, rfl⟩ := trodAll_nil r0
  obtain rfl : args = #[v0] := by cases args; simp_all
  obtain ⟨rfl, rfl⟩ := trodVars_none hV
  obtain ⟨a0, rfl, rfl, rfl, w0⟩ := open_int Eddg.underlying3 (hval 0 3 v0 rfl rfl) h0
  clear hA0 hval0
  simp only [List.append_nil] at hW'
  refine (walk a0 w0 W).mono fun e W' ⟨he, hg⟩ => ?_
  subst he
  exact ⟨_, rfl, post_of_same (pa := []) (pv := []) hW' (fun _ _ _ => (trodAll_cons_mk (shut_bool Eddg.underlying4 _) trodAll_mk0)) (fun sp _ => (trodAll_cons_mk (shut_int Eddg.underlying3 w0) trodAll_mk0)) (fun _ _ => rfl) rfl
    (hg.frame _) hg.2.1 (ok_one (by kernel_rfl) rfl (okWide_bool_mk Eddg.underlying4 _))⟩

theorem over : Rows.fnTooLargeIsMagnitudeAboveMillionRow.holds Eddg.pinned (OpenSpec.ofChange Rows.fnTooLargeIsMagnitudeAboveMillionSpec) :=
  OpenClaim.holds_of_wide 3 Eddg.f3 rfl rfl rfl rfl rfl rfl rfl ⟨rfl, rfl, rfl, rfl, rfl⟩ rfl rfl rfl rfl rfl (by kernel_rfl) Eddg.func3 (by kernel_rfl)
    (of_decide_eq_true (by kernel_rfl)) (by unfold Func.isWrapper; first | (rw [if_pos (by decide +kernel)]; kernel_rfl) | (rw [if_neg (by decide +kernel)]; exact ⟨rfl, rfl⟩))
    (fun os started H enc _ => lifted os started H enc)

/-- ████ THE STATEMENT ████ -/
theorem proved : Rows.FnTooLargeIsMagnitudeAboveMillionSaid :=
  over
#print axioms proved
end Go.Proofs.Yoeddw.fnTooLargeIsMagnitudeAboveMillion
