/-
  'Rows.FnAlignShiftIdempotentMonotoneSaid', proved: the tool's frame, its walk filled.
-/
import Derived.Test.Qxb6615207aBits
import Derived.WalkKit
import Derived.ProofKit
import Derived.OpenShut
import Derived.ShutString
namespace Go.Proofs.Qxb6615207a.fnAlignShiftIdempotentMonotone
open Go.ChangeShapes Go.WideShapes Go.ChangeAt Go.RowKit
open Go.ChangeMaps (open_string shut_string)
set_option linter.unusedVariables false      -- a walk need not use every 'w<i>' (that an integer argument fits its kind)

theorem own : ownKnob Try.prog.godebug = none := by kernel_rfl

/-! ### STEP 1: THE WALK: the Go text returns true. 'Grown w w'': the world has at most new blocks (Derived/RowKit3.lean). Part the cases AHEAD of 'go_enter' where a test parts the walk; take each callee by a contract of your own. -/
theorem walk (a0 : Int) (a1 : Int) (w0 : (Lit.int .i64 a0).wf = true) (w1 : (Lit.int .i64 a1).wf = true) (w : World) :
    Calls Try.prog 4 #[.int .i64 a0, .int .i64 a1] w fun e w' => e = .returned (.bool true) ∧ Grown w w' := by
  have hb0 : -9223372036854775808 ≤ a0 ∧ a0 ≤ 9223372036854775807 := i64_bounds w0
  have hb1 : -9223372036854775808 ≤ a1 ∧ a1 ≤ 9223372036854775807 := i64_bounds w1
  clear w0 w1
  by_cases hm : a0 ≤ 9223372036854775800
  · by_cases hn : a1 ≤ 9223372036854775800
    · have c1 := fun w => zalign_any a1 (by omega) (by omega) w
      have c2 := fun w => zalign_any (a1 + 4) (by omega) (by omega) w
      have c3 := fun w => zalign_any ((a1 + 3) / 4 * 4) (by omega) (by omega) w
      have c4 := fun w => zalign_any a0 (by omega) (by omega) w
      have e2 : (a1 + 4 + 3) / 4 * 4 = (a1 + 3) / 4 * 4 + 4 := by omega
      have e3 : ((a1 + 3) / 4 * 4 + 3) / 4 * 4 = (a1 + 3) / 4 * 4 := by omega
      have e4 : a0 ≤ a1 → (a0 + 3) / 4 * 4 ≤ (a1 + 3) / 4 * 4 := by omega
      have h3 := i64_and3 ((a1 + 3) / 4 * 4)
      have h4 : (a1 + 3) / 4 * 4 % 4 = 0 := by omega
      rw [h4] at h3
      rw [e2] at c2
      rw [e3] at c3
      have b1 : -9223372036854775808 ≤ (a1 + 3) / 4 * 4 := by omega
      have b2 : (a1 + 3) / 4 * 4 ≤ 9223372036854775803 := by omega
      clear e2 e3 h4
      generalize (a1 + 3) / 4 * 4 = r at *
      generalize (a0 + 3) / 4 * 4 = q at *
      have C1 := show Hid _ from c1
      have C2 := show Hid _ from c2
      have C3 := show Hid _ from c3
      have C4 := show Hid _ from c4
      clear c1 c2 c3 c4
      have f1 : (r + 4 != r + 4) = false := by simp
      have f2 : (r != r) = false := by simp
      by_cases hle : a0 ≤ a1
      · have e5 := e4 hle
        clear e4
        have e6 : ¬ r < q := by omega
        go_enter Try.func4, Try.ntmps4
        go_wp2_with fail
        refine (C1.out _).mono ?_
        rintro e w' ⟨rfl, rfl⟩
        go_wp2_with fail
        refine (C2.out _).mono ?_
        rintro e w' ⟨rfl, rfl⟩
        go_wp2_with fail
        refine (C3.out _).mono ?_
        rintro e w' ⟨rfl, rfl⟩
        go_wp2_with fail
        refine (C4.out _).mono ?_
        rintro e w' ⟨rfl, rfl⟩
        go_wp2_with fail
        go_ret
        exact ⟨rfl, Grown.refl _⟩
      · clear e4
        go_enter Try.func4, Try.ntmps4
        go_wp2_with fail
        refine (C1.out _).mono ?_
        rintro e w' ⟨rfl, rfl⟩
        go_wp2_with fail
        refine (C2.out _).mono ?_
        rintro e w' ⟨rfl, rfl⟩
        go_wp2_with fail
        refine (C3.out _).mono ?_
        rintro e w' ⟨rfl, rfl⟩
        go_wp2_with fail
        go_ret
        exact ⟨rfl, Grown.refl _⟩
    · have h' : 9223372036854775800 < a1 := by omega
      clear hn
      go_enter Try.func4, Try.ntmps4
      go_wp2
      go_ret
      exact ⟨rfl, Grown.refl _⟩
  · have h' : 9223372036854775800 < a0 := by omega
    clear hm
    go_enter Try.func4, Try.ntmps4
    go_wp2
    go_ret
    exact ⟨rfl, Grown.refl _⟩

/-! ### THE ROW's STEP: WRITTEN OUT: LEAVE IT -/
set_option maxRecDepth 100000 in
theorem lifted (os : Os) (started : os.Started) (H : Type) (enc : TypeId × Value → H) :
    ReturnsInHanded {} Try.checked os 4 .any (Rows.fnAlignShiftIdempotentMonotoneSpec.pre6 enc Try.prog Try.f4 Rows.fnAlignShiftIdempotentMonotoneRow.domain false) (Rows.fnAlignShiftIdempotentMonotoneSpec.post enc Try.prog Try.f4 false true false false) := by
  refine returnsInHanded_of_change (C := Try.checked) own started (by kernel_rfl) Try.func4
    (ChangeSpec.witness6 (enc := enc) (C := Try.checked) false ⟨#[], #[.int .i64 0, .int .i64 0], []⟩ 8 (by kernel_rfl) (by kernel_rfl) (by kernel_rfl) (by kernel_rfl)) ?_
  intro W base args ds gs before hval0 hW hcnd _
  have hval : ∀ (j : Nat) t v, Try.f4.params[j]? = some t → args[j]? = some v → Value.okWide Try.prog W .any base t v := hval0
  have hW' := hW
  obtain ⟨p, q, hA0, hV, rfl, hfz, hnd⟩ := hW
  have hA : DataW.TrodAll enc Try.prog W 0 (fun _ => true) true Try.f4.params.toList args.toList ds p := hA0
  rw [Try.params4] at hA hval
  obtain ⟨v0, vs0, d0, ds0, p0, q0, hargs, rfl, rfl, h0, r0⟩ := trodAll_cons hA
  obtain ⟨v1, vs1, d1, ds1, p1, q1, rfl, rfl, rfl, h1, r1⟩ := trodAll_cons r0
  obtain ⟨rfl, rfl, rfl⟩ := trodAll_nil r1
  obtain rfl : args = #[v0, v1] := by cases args; simp_all
  obtain ⟨rfl, rfl⟩ := trodVars_none hV
  obtain ⟨a0, rfl, rfl, rfl, w0⟩ := open_int Try.underlying3 (hval 0 3 v0 rfl rfl) h0
  obtain ⟨a1, rfl, rfl, rfl, w1⟩ := open_int Try.underlying3 (hval 1 3 v1 rfl rfl) h1
  clear hA0 hval0
  simp only [List.append_nil] at hW'
  refine (walk a0 a1 w0 w1 W).mono fun e W' ⟨he, hg⟩ => ?_
  subst he
  exact ⟨_, rfl, post_of_same (pa := []) (pv := []) hW' (fun _ _ _ => (trodAll_cons_mk (shut_bool Try.underlying4 _) trodAll_mk0)) (fun sp _ => (trodAll_cons_mk (shut_int Try.underlying3 w0) (trodAll_cons_mk (shut_int Try.underlying3 w1) trodAll_mk0))) (fun _ _ => rfl) rfl
    (hg.frame _) hg.2.1 (ok_one (by kernel_rfl) rfl (okWide_bool_mk Try.underlying4 _))⟩

theorem over : Rows.fnAlignShiftIdempotentMonotoneRow.holds Try.pinned (OpenSpec.ofChange Rows.fnAlignShiftIdempotentMonotoneSpec) :=
  OpenClaim.holds_of_wide 4 Try.f4 rfl rfl rfl rfl rfl rfl rfl ⟨rfl, rfl, rfl, rfl, rfl⟩ rfl rfl rfl rfl rfl (by kernel_rfl) Try.func4 (by kernel_rfl)
    (of_decide_eq_true (by kernel_rfl)) (by unfold Func.isWrapper; first | (rw [if_pos (by decide +kernel)]; kernel_rfl) | (rw [if_neg (by decide +kernel)]; exact ⟨rfl, rfl⟩))
    (fun os started H enc _ => lifted os started H enc)

/-- ████ THE STATEMENT ████ -/
theorem proved : Rows.FnAlignShiftIdempotentMonotoneSaid :=
  over
end Go.Proofs.Qxb6615207a.fnAlignShiftIdempotentMonotone
