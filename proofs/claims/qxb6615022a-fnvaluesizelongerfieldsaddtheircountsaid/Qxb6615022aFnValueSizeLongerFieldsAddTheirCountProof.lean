/-
  The proof of 'Rows.FnValueSizeLongerFieldsAddTheirCountSaid'. The frame is the guide's template (proof-skeleton.mjs) turned by hand to a parameter that is an array of five float64 and to 'Below' (each argument is read back by 'Below.trod').
-/
import Derived.Test.Qxb6615022aRows
import Derived.Test.Qxb6615022aPlain
import Derived.Test.Qxb6615022aCommon
import Derived.WalkKit
import Derived.ProofKit
import Derived.OpenShut
import Derived.ShutString
import Derived.ChangeOld
import Derived.Below
import Derived.Lib.QuietBelow
namespace Go.Proofs.Qxb6615022a.fnValueSizeLongerFieldsAddTheirCount
open Go.ChangeShapes Go.WideShapes Go.ChangeAt Go.RowKit
open Go.ChangeMaps (open_string shut_string)
set_option linter.unusedVariables false

theorem own : ownKnob Try.prog.godebug = none := by kernel_rfl
theorem laidOut : laidOutB Try.prog = true := by kernel_rfl

attribute [local go_sem] run_store_float c3 c4 c5
set_option maxHeartbeats 400000 in
theorem walk (a0 a1 : Int) (b0 b1 b2 b3 b4 : Nat) (s : ByteArray) (a4 a5 a6 : Int) (w3 : s.size ≤ maxLen) (w4 : (Lit.int .i64 a4).wf = true) (w5 : (Lit.int .i64 a5).wf = true) (w : World) :
    Calls Try.prog 4 #[.int .i64 a0, .int .i64 a1, .agg #[.float .f64 b0, .float .f64 b1, .float .f64 b2, .float .f64 b3, .float .f64 b4], .string s, .int .i64 a4, .int .i64 a5, .int .i64 a6] w fun e w' => e = .returned (.bool true) ∧ Below w.heap.size w w' := by
  unfold maxLen at w3
  have e1 : IntKind.i64.wrap (wrap64 (a4 * wrap64 (a5 + 1)) - wrap64 (a4 * a5)) = a4 := by
    have h4 := bounds_i64 w4
    rw [wrapEq]
    exact Plain.longer a4 a5 (by omega) (by omega)
  have e2 : wrap64 (a5 * a4) = wrap64 (a4 * a5) := by rw [Int.mul_comm]
  clear w4 w5
  by_cases hb : s.size ≤ 1048576
  · by_cases hs : s.size ≤ 65536
    · go_enter Try.func4, Try.ntmps4
      go_wp2
      refine wp_region_quiet_below (by kernel_rfl) (by kernel_rfl) ?_
      quiet_step (fail)
      quiet_step (exact Calls.regrown_of (vs_any _ _ _ _ _ _ _ _ _ _ _ _))
      quiet_step (fail)
      quiet_step (exact Calls.regrown_of (vs_any _ _ _ _ _ _ _ _ _ _ _ _))
      quiet_step (fail)
      quiet_step (fail)
      quiet_step (fail)
      quiet_step (fail)
      quiet_step (fail)
      quiet_step (exact Calls.regrown_of (vs_any _ _ _ _ _ _ _ _ _ _ _ _))
      quiet_step (fail)
      quiet_step (exact Calls.regrown_of (vs_any _ _ _ _ _ _ _ _ _ _ _ _))
      quiet_step (fail)
      quiet_step (fail)
      quiet_step (fail)
      refine wpQuiet_nil ?_
      intro _ hw'
      obtain ⟨⟨dq, osq⟩, hw''⟩ := hw'
      subst hw''
      go_wp2
      go_ret
      refine ⟨rfl, Below.trans ?_ ((below_regrown _ dq osq).mono (by simp; omega))⟩
      exact (((((Below.refl _ _).alloc (by simp) _).alloc (by simp) _).alloc (by simp; omega) _).alloc (by simp; omega) _).alloc (by simp; omega) _
    · go_enter Try.func4, Try.ntmps4
      go_wp2
      go_ret
      exact ⟨rfl, ((Below.refl _ _).alloc (by simp) _).alloc (by simp) _⟩
  · go_enter Try.func4, Try.ntmps4
    go_wp2
    go_ret
    exact ⟨rfl, ((Below.refl _ _).alloc (by simp) _).alloc (by simp) _⟩

set_option maxRecDepth 100000 in
theorem lifted (os : Os) (started : os.Started) (H : Type) (enc : TypeId × Value → H) :
    ReturnsInHanded {} Try.checked os 4 .any (Rows.fnValueSizeLongerFieldsAddTheirCountSpec.pre6 enc Try.prog Try.f4 Rows.fnValueSizeLongerFieldsAddTheirCountRow.domain false) (Rows.fnValueSizeLongerFieldsAddTheirCountSpec.post enc Try.prog Try.f4 false true false false) := by
  refine returnsInHanded_of_change (C := Try.checked) own started (by kernel_rfl) Try.func4
    (ChangeSpec.witness6 (enc := enc) (C := Try.checked) false ⟨#[], #[.int .i64 0, .int .i64 0, .agg #[.float .f64 0, .float .f64 0, .float .f64 0, .float .f64 0, .float .f64 0], .string ByteArray.empty, .int .i64 0, .int .i64 0, .int .i64 0], []⟩ 8 (by kernel_rfl) (by kernel_rfl) (by kernel_rfl) (by kernel_rfl)) ?_
  intro W base args ds gs before hval0 hW hcnd _
  have hval : ∀ (j : Nat) t v, Try.f4.params[j]? = some t → args[j]? = some v → Value.okWide Try.prog W .any base t v := hval0
  have hW' := hW
  obtain ⟨p, q, hA0, hV, rfl, hfz, hnd⟩ := hW
  have hA : DataW.TrodAll enc Try.prog W 0 (fun _ => true) true Try.f4.params.toList args.toList ds p := hA0
  rw [Try.params4] at hA hval
  obtain ⟨v0, vs0, d0, ds0, p0, q0, hargs, rfl, rfl, h0, r0⟩ := trodAll_cons hA
  obtain ⟨v1, vs1, d1, ds1, p1, q1, rfl, rfl, rfl, h1, r1⟩ := trodAll_cons r0
  obtain ⟨v2, vs2, d2, ds2, p2, q2, rfl, rfl, rfl, h2, r2⟩ := trodAll_cons r1
  obtain ⟨v3, vs3, d3, ds3, p3, q3, rfl, rfl, rfl, h3, r3⟩ := trodAll_cons r2
  obtain ⟨v4, vs4, d4, ds4, p4, q4, rfl, rfl, rfl, h4, r4⟩ := trodAll_cons r3
  obtain ⟨v5, vs5, d5, ds5, p5, q5, rfl, rfl, rfl, h5, r5⟩ := trodAll_cons r4
  obtain ⟨v6, vs6, d6, ds6, p6, q6, rfl, rfl, rfl, h6, r6⟩ := trodAll_cons r5
  obtain ⟨rfl, rfl, rfl⟩ := trodAll_nil r6
  obtain rfl : args = #[v0, v1, v2, v3, v4, v5, v6] := by cases args; simp_all
  obtain ⟨rfl, rfl⟩ := trodVars_none hV
  have k2 := h2
  have lt2 : ∀ x ∈ p2, x.block < W.heap.size := by obtain ⟨m, hm⟩ := k2; exact DataW.trod_lt m _ _ _ hm
  obtain ⟨a0, rfl, rfl, rfl, w0⟩ := open_int Try.underlying3 (hval 0 3 v0 rfl rfl) h0
  obtain ⟨a1, rfl, rfl, rfl, w1⟩ := open_int Try.underlying3 (hval 1 3 v1 rfl rfl) h1
  obtain ⟨b0, b1, b2, b3, b4, rfl⟩ := okWide_floats Try.underlying23 Try.underlying22 cells23 types23 (hval 2 23 v2 rfl rfl)
  obtain ⟨a3, rfl, rfl, rfl, w3⟩ := open_string Try.underlying9 (hval 3 9 v3 rfl rfl) h3
  obtain ⟨a4, rfl, rfl, rfl, w4⟩ := open_int Try.underlying3 (hval 4 3 v4 rfl rfl) h4
  obtain ⟨a5, rfl, rfl, rfl, w5⟩ := open_int Try.underlying3 (hval 5 3 v5 rfl rfl) h5
  obtain ⟨a6, rfl, rfl, rfl, w6⟩ := open_int Try.underlying3 (hval 6 3 v6 rfl rfl) h6
  clear hA0 hval0
  refine (walk a0 a1 b0 b1 b2 b3 b4 a3 a4 a5 a6 w3 w4 w5 W).mono fun e W' ⟨he, bel⟩ => ?_
  subst he
  exact ⟨_, rfl, _, _, _, [], _, [], hW', trodAll_mk1 (shut_bool Try.underlying4 _), (trodAll_cons_mk (shut_int Try.underlying3 w0) (trodAll_cons_mk (shut_int Try.underlying3 w1) (trodAll_cons_mk (Below.trod laidOut (by kernel_rfl) (of_decide_eq_true (by kernel_rfl)) k2 bel lt2) (trodAll_cons_mk (shut_string Try.underlying9 w3) (trodAll_cons_mk (shut_int Try.underlying3 w4) (trodAll_cons_mk (shut_int Try.underlying3 w5) (trodAll_cons_mk (shut_int Try.underlying3 w6) trodAll_mk0))))))), rfl, bel.frame _, fun h => by cases h⟩

theorem over : Rows.fnValueSizeLongerFieldsAddTheirCountRow.holds Try.pinned (OpenSpec.ofChange Rows.fnValueSizeLongerFieldsAddTheirCountSpec) :=
  OpenClaim.holds_of_wide 4 Try.f4 rfl rfl rfl rfl rfl rfl rfl ⟨rfl, rfl, rfl, rfl, rfl⟩ rfl rfl rfl rfl rfl (by kernel_rfl) Try.func4 (by kernel_rfl)
    (of_decide_eq_true (by kernel_rfl)) (by unfold Func.isWrapper; first | (rw [if_pos (by decide +kernel)]; kernel_rfl) | (rw [if_neg (by decide +kernel)]; exact ⟨rfl, rfl⟩))
    (fun os started H enc _ => lifted os started H enc)
end Go.Proofs.Qxb6615022a.fnValueSizeLongerFieldsAddTheirCount
namespace Go.Proofs.Qxb6615022a
/-- The given statement. -/
theorem fnValueSizeLongerFieldsAddTheirCount_proved : Rows.FnValueSizeLongerFieldsAddTheirCountSaid := fnValueSizeLongerFieldsAddTheirCount.over
end Go.Proofs.Qxb6615022a
