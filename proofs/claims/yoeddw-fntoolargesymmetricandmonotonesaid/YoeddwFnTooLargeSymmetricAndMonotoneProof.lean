/-
  'Rows.FnTooLargeSymmetricAndMonotoneSaid', proved: the given shell (by program), its walk filled out of the leaves' contracts (YoeddwLeaves).
-/
import Derived.Test.YoeddwRows
import Derived.Test.YoeddwLeaves
import Derived.WalkKit
import Derived.ProofKit
import Derived.OpenShut
import Derived.ShutString
namespace Go.Proofs.Yoeddw.fnTooLargeSymmetricAndMonotone
open Go.ChangeShapes Go.WideShapes Go.ChangeAt Go.RowKit
open Go.ChangeMaps (open_string shut_string)
set_option linter.unusedVariables false      -- a walk need not use every 'w<i>' (that an integer argument fits its kind)

theorem own : ownKnob Eddg.prog.godebug = none := by kernel_rfl

/-! ### THE PLAIN LAWS: no Go in sight -/
theorem big_symm (x : Int) : big (-x) = big x := by
  simp only [big]; congr 1; simp only [eq_iff_iff]; omega
theorem big_mono {x y : Int} (h : mag x ≤ mag y) (hx : big x = true) : big y = true := by
  simp only [big, decide_eq_true_eq] at hx ⊢
  unfold mag at h
  split at h <;> split at h <;> omega
/-- The least int's negation wraps back to it. -/
theorem wrap_min {x : Int} (h0 : -9223372036854775808 ≤ x) (h1 : x ≤ -9223372036854775808) : wrap64 (-x) < 0 := by
  unfold wrap64; omega

/-! ### STEP 1: THE WALK: the Go text returns true. 'Grown w w'': the world has at most new blocks (Derived/RowKit3.lean). Part the cases AHEAD of 'go_enter' where a test parts the walk; take each callee by a contract of your own. -/
theorem walk (a0 : Int) (a1 : Int) (w0 : (Lit.int .i64 a0).wf = true) (w1 : (Lit.int .i64 a1).wf = true) (w : World) :
    Calls Eddg.prog 4 #[.int .i64 a0, .int .i64 a1] w fun e w' => e = .returned (.bool true) ∧ Grown w w' := by
  have hb0 := bounds_i64 w0
  have hb1 := bounds_i64 w1
  have hsym : big (-a0) = big a0 := big_symm a0
  by_cases hneg : a0 < 0
  · by_cases hmin : a0 ≤ -9223372036854775808
    · have hwr : wrap64 (-a0) < 0 := wrap_min (by omega) hmin
      by_cases hle : mag a0 ≤ mag a1
      · by_cases hx : big a0 = true
        · have hy : big a1 = true := big_mono hle hx
          go_enter Eddg.func4, Eddg.ntmps4
          go_wp2_with (first | (go_at_call 5; refine (zzTooLarge_any _ _).mono ?_; rintro e w' ⟨rfl, rfl⟩) | (go_at_call 6; refine (zzMag_any _ (by omega) (by omega) _).mono ?_; rintro e w' ⟨rfl, rfl⟩))
          go_ret
          exact ⟨rfl, Grown.refl _⟩
        · have hx' : big a0 = false := by simpa using hx
          clear hx
          go_enter Eddg.func4, Eddg.ntmps4
          go_wp2_with (first | (go_at_call 5; refine (zzTooLarge_any _ _).mono ?_; rintro e w' ⟨rfl, rfl⟩) | (go_at_call 6; refine (zzMag_any _ (by omega) (by omega) _).mono ?_; rintro e w' ⟨rfl, rfl⟩))
          go_ret
          exact ⟨rfl, Grown.refl _⟩
      · have hle' : mag a1 < mag a0 := by omega
        clear hle
        go_enter Eddg.func4, Eddg.ntmps4
        go_wp2_with (first | (go_at_call 5; refine (zzTooLarge_any _ _).mono ?_; rintro e w' ⟨rfl, rfl⟩) | (go_at_call 6; refine (zzMag_any _ (by omega) (by omega) _).mono ?_; rintro e w' ⟨rfl, rfl⟩))
        go_ret
        exact ⟨rfl, Grown.refl _⟩
    · have hmin' : -9223372036854775807 ≤ a0 := by omega
      have hnp : decide (0 < a0) = false := by simp; omega
      clear hmin
      by_cases hle : mag a0 ≤ mag a1
      · by_cases hx : big a0 = true
        · have hy : big a1 = true := big_mono hle hx
          go_enter Eddg.func4, Eddg.ntmps4
          go_wp2_with (first | (go_at_call 5; refine (zzTooLarge_any _ _).mono ?_; rintro e w' ⟨rfl, rfl⟩) | (go_at_call 6; refine (zzMag_any _ (by omega) (by omega) _).mono ?_; rintro e w' ⟨rfl, rfl⟩))
          go_ret
          exact ⟨rfl, Grown.refl _⟩
        · have hx' : big a0 = false := by simpa using hx
          clear hx
          go_enter Eddg.func4, Eddg.ntmps4
          go_wp2_with (first | (go_at_call 5; refine (zzTooLarge_any _ _).mono ?_; rintro e w' ⟨rfl, rfl⟩) | (go_at_call 6; refine (zzMag_any _ (by omega) (by omega) _).mono ?_; rintro e w' ⟨rfl, rfl⟩))
          go_ret
          exact ⟨rfl, Grown.refl _⟩
      · have hle' : mag a1 < mag a0 := by omega
        clear hle
        go_enter Eddg.func4, Eddg.ntmps4
        go_wp2_with (first | (go_at_call 5; refine (zzTooLarge_any _ _).mono ?_; rintro e w' ⟨rfl, rfl⟩) | (go_at_call 6; refine (zzMag_any _ (by omega) (by omega) _).mono ?_; rintro e w' ⟨rfl, rfl⟩))
        go_ret
        exact ⟨rfl, Grown.refl _⟩
  · have hpos : 0 ≤ a0 := by omega
    clear hneg
    by_cases hle : mag a0 ≤ mag a1
    · by_cases hx : big a0 = true
      · have hy : big a1 = true := big_mono hle hx
        go_enter Eddg.func4, Eddg.ntmps4
        go_wp2_with (first | (go_at_call 5; refine (zzTooLarge_any _ _).mono ?_; rintro e w' ⟨rfl, rfl⟩) | (go_at_call 6; refine (zzMag_any _ (by omega) (by omega) _).mono ?_; rintro e w' ⟨rfl, rfl⟩))
        go_ret
        exact ⟨rfl, Grown.refl _⟩
      · have hx' : big a0 = false := by simpa using hx
        clear hx
        go_enter Eddg.func4, Eddg.ntmps4
        go_wp2_with (first | (go_at_call 5; refine (zzTooLarge_any _ _).mono ?_; rintro e w' ⟨rfl, rfl⟩) | (go_at_call 6; refine (zzMag_any _ (by omega) (by omega) _).mono ?_; rintro e w' ⟨rfl, rfl⟩))
        go_ret
        exact ⟨rfl, Grown.refl _⟩
    · have hle' : mag a1 < mag a0 := by omega
      clear hle
      go_enter Eddg.func4, Eddg.ntmps4
      go_wp2_with (first | (go_at_call 5; refine (zzTooLarge_any _ _).mono ?_; rintro e w' ⟨rfl, rfl⟩) | (go_at_call 6; refine (zzMag_any _ (by omega) (by omega) _).mono ?_; rintro e w' ⟨rfl, rfl⟩))
      go_ret
      exact ⟨rfl, Grown.refl _⟩

/-! ### THE ROW's STEP: WRITTEN OUT: LEAVE IT -/
set_option maxRecDepth 100000 in
theorem lifted (os : Os) (started : os.Started) (H : Type) (enc : TypeId × Value → H) :
    ReturnsInHanded {} Eddg.checked os 4 .any (Rows.fnTooLargeSymmetricAndMonotoneSpec.pre6 enc Eddg.prog Eddg.f4 Rows.fnTooLargeSymmetricAndMonotoneRow.domain false) (Rows.fnTooLargeSymmetricAndMonotoneSpec.post enc Eddg.prog Eddg.f4 false true false false) := by
  refine returnsInHanded_of_change (C := Eddg.checked) own started (by kernel_rfl) Eddg.func4
    (ChangeSpec.witness6 (enc := enc) (C := Eddg.checked) false ⟨#[], #[.int .i64 0, .int .i64 0], []⟩ 8 (by kernel_rfl) (by kernel_rfl) (by kernel_rfl) (by kernel_rfl)) ?_
  intro W base args ds gs before hval0 hW hcnd _
  have hval : ∀ (j : Nat) t v, Eddg.f4.params[j]? = some t → args[j]? = some v → Value.okWide Eddg.prog W .any base t v := hval0
  have hW' := hW
  obtain ⟨p, q, hA0, hV, rfl, hfz, hnd⟩ := hW
  have hA : DataW.TrodAll enc Eddg.prog W 0 (fun _ => true) true Eddg.f4.params.toList args.toList ds p := hA0
  rw [Eddg.params4] at hA hval
  obtain ⟨v0, vs0, d0, ds0, p0, q0, hargs, rfl, rfl, h0, r0⟩ := trodAll_cons hA
  obtain ⟨v1, vs1, d1, ds1, p1, q1, rfl, rfl, rfl, h1, r1⟩ := trodAll_cons r0
  obtain ⟨rfl, rfl, rfl⟩ := trodAll_nil r1
  obtain rfl : args = #[v0, v1] := by cases args; simp_all
  obtain ⟨rfl, rfl⟩ := trodVars_none hV
  obtain ⟨a0, rfl, rfl, rfl, w0⟩ := open_int Eddg.underlying3 (hval 0 3 v0 rfl rfl) h0
  obtain ⟨a1, rfl, rfl, rfl, w1⟩ := open_int Eddg.underlying3 (hval 1 3 v1 rfl rfl) h1
  clear hA0 hval0
  simp only [List.append_nil] at hW'
  refine (walk a0 a1 w0 w1 W).mono fun e W' ⟨he, hg⟩ => ?_
  subst he
  exact ⟨_, rfl, post_of_same (pa := []) (pv := []) hW' (fun _ _ _ => (trodAll_cons_mk (shut_bool Eddg.underlying4 _) trodAll_mk0)) (fun sp _ => (trodAll_cons_mk (shut_int Eddg.underlying3 w0) (trodAll_cons_mk (shut_int Eddg.underlying3 w1) trodAll_mk0))) (fun _ _ => rfl) rfl
    (hg.frame _) hg.2.1 (ok_one (by kernel_rfl) rfl (okWide_bool_mk Eddg.underlying4 _))⟩

theorem over : Rows.fnTooLargeSymmetricAndMonotoneRow.holds Eddg.pinned (OpenSpec.ofChange Rows.fnTooLargeSymmetricAndMonotoneSpec) :=
  OpenClaim.holds_of_wide 4 Eddg.f4 rfl rfl rfl rfl rfl rfl rfl ⟨rfl, rfl, rfl, rfl, rfl⟩ rfl rfl rfl rfl rfl (by kernel_rfl) Eddg.func4 (by kernel_rfl)
    (of_decide_eq_true (by kernel_rfl)) (by unfold Func.isWrapper; first | (rw [if_pos (by decide +kernel)]; kernel_rfl) | (rw [if_neg (by decide +kernel)]; exact ⟨rfl, rfl⟩))
    (fun os started H enc _ => lifted os started H enc)

/-- ████ THE STATEMENT ████ -/
theorem proved : Rows.FnTooLargeSymmetricAndMonotoneSaid :=
  over
#print axioms proved
end Go.Proofs.Yoeddw.fnTooLargeSymmetricAndMonotone
