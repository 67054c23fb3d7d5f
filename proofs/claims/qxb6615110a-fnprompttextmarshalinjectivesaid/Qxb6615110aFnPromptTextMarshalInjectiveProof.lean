/-
  The proof of 'Rows.FnPromptTextMarshalInjectiveSaid'. The frame is the given shell (proof-skeleton.mjs), turned from 'Grown' to 'Below'.
-/
import Derived.Test.Qxb6615110aRows
import Derived.WalkKit
import Derived.ProofKit
import Derived.OpenShut
import Derived.ShutString
import Derived.Below
import Derived.WalkSmall
import Derived.Test.Qxb6615110aMarshal
import Derived.Test.Qxb6615110aSame
namespace Go.Proofs.Qxb6615110a.fnPromptTextMarshalInjective
open Go.ChangeShapes Go.WideShapes Go.ChangeAt Go.RowKit
open Go.ChangeMaps (open_string shut_string)
set_option linter.unusedVariables false      -- a walk need not use every 'w<i>' (that an integer argument fits its kind)

theorem own : ownKnob Try.prog.godebug = none := by kernel_rfl

theorem zz8_yes (a0 a2 : Value) (s1 s2 : ByteArray) (h : s1.size + s2.size ≤ 1048576) (w : World) :
    Calls Try.prog 8 #[a0, .string s1, a2, .string s2] w fun e w' => e = .returned (.bool true) ∧ w' = w := by
  go_enter Try.func8, Try.ntmps8
  go_wp2
  go_ret
  exact ⟨rfl, rfl⟩
theorem zz8_no (a0 a2 : Value) (s1 s2 : ByteArray) (h1 : s1.size ≤ 9223372036854775807) (h2 : s2.size ≤ 9223372036854775807) (h : 1048576 < s1.size + s2.size) (w : World) :
    Calls Try.prog 8 #[a0, .string s1, a2, .string s2] w fun e w' => e = .returned (.bool false) ∧ w' = w := by
  by_cases ha : s1.size ≤ 1048576
  · by_cases hb : s2.size ≤ 1048576
    · go_enter Try.func8, Try.ntmps8
      go_wp2
      go_ret
      exact ⟨rfl, rfl⟩
    · go_enter Try.func8, Try.ntmps8
      go_wp2
      go_ret
      exact ⟨rfl, rfl⟩
  · go_enter Try.func8, Try.ntmps8
    go_wp2
    go_ret
    exact ⟨rfl, rfl⟩

theorem pb_ne1 (k : Int) (s t : ByteArray) (h : ¬ s = t) : pbytes k s ≠ pbytes k t := fun e => h (bytes_inj (by simpa [pbytes] using e))
theorem pb_ne2 (k l : Int) (s t : ByteArray) (h : ¬ k = l) : pbytes k s ≠ pbytes l t := fun e => h (by simp [pbytes] at e; exact e.1)

set_option maxHeartbeats 800000 in
theorem walk (a0 : Int) (a1 : ByteArray) (a2 : Int) (a3 : ByteArray) (w1 : a1.size ≤ maxLen) (w3 : a3.size ≤ maxLen) (w : World) :
    Calls Try.prog 4 #[.int .u8 a0, .string a1, .int .u8 a2, .string a3] w fun e w' => e = .returned (.bool true) ∧ Below w.heap.size w w' := by
  unfold maxLen at w1 w3
  by_cases h1 : a1.size ≤ 524288
  · by_cases h2 : a3.size ≤ 524288
    · by_cases hk : a0 = a2
      · subst hk
        by_cases hs : a1 = a3
        · subst hs
          go_enter Try.func4, Try.ntmps4
          go_wp2_with (go_at_call 8; refine (zz8_yes _ _ _ _ (by omega) _).mono ?_; rintro e w' ⟨rfl, rfl⟩)
          refine (marshal_any _ _ (by omega) _).mono ?_
          rintro e u1 ⟨g1, c1, rfl, hg1, hl1, hr1, hb1⟩
          go_wp2_with fail
          refine (marshal_any _ _ (by omega) _).mono ?_
          rintro e u2 ⟨g2, c2, rfl, hg2, hl2, hr2, hb2⟩
          go_wp2_with fail
          refine (same_yes _ _ _ _ _ _ _ _ _ (hr1.later hb2 hl1) hr2 (pbytes_length _ _) (pbytes_length _ _) (by omega) (by omega) rfl).mono ?_
          rintro e u3 ⟨rfl, n3, rfl⟩
          go_wp2
          go_ret
          exact ⟨rfl, below_drewN (hb1.trans (hb2.mono (by have := hb1.size; omega))) n3⟩
        · have hq := str_ne hs
          have H : Hid (pbytes a0 a1 ≠ pbytes a0 a3) := pb_ne1 a0 a1 a3 hs
          clear hs
          go_enter Try.func4, Try.ntmps4
          go_wp2_with (go_at_call 8; refine (zz8_yes _ _ _ _ (by omega) _).mono ?_; rintro e w' ⟨rfl, rfl⟩)
          refine (marshal_any _ _ (by omega) _).mono ?_
          rintro e u1 ⟨g1, c1, rfl, hg1, hl1, hr1, hb1⟩
          go_wp2_with fail
          refine (marshal_any _ _ (by omega) _).mono ?_
          rintro e u2 ⟨g2, c2, rfl, hg2, hl2, hr2, hb2⟩
          go_wp2_with fail
          refine (same_no _ _ _ _ _ _ _ _ _ (hr1.later hb2 hl1) hr2 (pbytes_length _ _) (pbytes_length _ _) (by omega) (by omega) H.out).mono ?_
          rintro e u3 ⟨rfl, n3, rfl⟩
          go_wp2
          go_ret
          exact ⟨rfl, below_drewN (hb1.trans (hb2.mono (by have := hb1.size; omega))) n3⟩
      · have H : Hid (pbytes a0 a1 ≠ pbytes a2 a3) := pb_ne2 a0 a2 a1 a3 hk
        have hq : (a0 == a2) = false := by simpa using hk
        go_enter Try.func4, Try.ntmps4
        go_wp2_with (go_at_call 8; refine (zz8_yes _ _ _ _ (by omega) _).mono ?_; rintro e w' ⟨rfl, rfl⟩)
        refine (marshal_any _ _ (by omega) _).mono ?_
        rintro e u1 ⟨g1, c1, rfl, hg1, hl1, hr1, hb1⟩
        go_wp2_with fail
        refine (marshal_any _ _ (by omega) _).mono ?_
        rintro e u2 ⟨g2, c2, rfl, hg2, hl2, hr2, hb2⟩
        go_wp2_with fail
        refine (same_no _ _ _ _ _ _ _ _ _ (hr1.later hb2 hl1) hr2 (pbytes_length _ _) (pbytes_length _ _) (by omega) (by omega) H.out).mono ?_
        rintro e u3 ⟨rfl, n3, rfl⟩
        go_wp2
        go_ret
        exact ⟨rfl, below_drewN (hb1.trans (hb2.mono (by have := hb1.size; omega))) n3⟩
    · by_cases h3 : a1.size + a3.size ≤ 1048576
      · go_enter Try.func4, Try.ntmps4
        go_wp2_with (go_at_call 8; refine (zz8_yes _ _ _ _ (by omega) _).mono ?_; rintro e w' ⟨rfl, rfl⟩)
        go_ret
        exact ⟨rfl, Below.refl _ _⟩
      · go_enter Try.func4, Try.ntmps4
        go_wp2_with (go_at_call 8; refine (zz8_no _ _ _ _ (by omega) (by omega) (by omega) _).mono ?_; rintro e w' ⟨rfl, rfl⟩)
        go_ret
        exact ⟨rfl, Below.refl _ _⟩
  · by_cases h3 : a1.size + a3.size ≤ 1048576
    · go_enter Try.func4, Try.ntmps4
      go_wp2_with (go_at_call 8; refine (zz8_yes _ _ _ _ (by omega) _).mono ?_; rintro e w' ⟨rfl, rfl⟩)
      go_ret
      exact ⟨rfl, Below.refl _ _⟩
    · go_enter Try.func4, Try.ntmps4
      go_wp2_with (go_at_call 8; refine (zz8_no _ _ _ _ (by omega) (by omega) (by omega) _).mono ?_; rintro e w' ⟨rfl, rfl⟩)
      go_ret
      exact ⟨rfl, Below.refl _ _⟩

/-! ### THE ROW's STEP -/
set_option maxRecDepth 100000 in
theorem lifted (os : Os) (started : os.Started) (H : Type) (enc : TypeId × Value → H) :
    ReturnsInHanded {} Try.checked os 4 .any (Rows.fnPromptTextMarshalInjectiveSpec.pre6 enc Try.prog Try.f4 Rows.fnPromptTextMarshalInjectiveRow.domain false) (Rows.fnPromptTextMarshalInjectiveSpec.post enc Try.prog Try.f4 false true false false) := by
  refine returnsInHanded_of_change (C := Try.checked) own started (by kernel_rfl) Try.func4
    (ChangeSpec.witness6 (enc := enc) (C := Try.checked) false ⟨#[], #[.int .u8 0, .string ByteArray.empty, .int .u8 0, .string ByteArray.empty], []⟩ 8 (by kernel_rfl) (by kernel_rfl) (by kernel_rfl) (by kernel_rfl)) ?_
  intro W base args ds gs before hval0 hW hcnd _
  have hval : ∀ (j : Nat) t v, Try.f4.params[j]? = some t → args[j]? = some v → Value.okWide Try.prog W .any base t v := hval0
  have hW' := hW
  obtain ⟨p, q, hA0, hV, rfl, hfz, hnd⟩ := hW
  have hA : DataW.TrodAll enc Try.prog W 0 (fun _ => true) true Try.f4.params.toList args.toList ds p := hA0
  rw [Try.params4] at hA hval
  obtain ⟨v0, vs0, d0, ds0, p0, q0, hargs, rfl, rfl, h0, r0⟩ := trodAll_cons hA
  obtain ⟨v1, vs1, d1, ds1, p1, q1, rfl, rfl, rfl, h1, r1⟩ := trodAll_cons r0
  obtain ⟨v2, vs2, d2, ds2, p2, q2, rfl, rfl, rfl, h2, r2⟩ := trodAll_cons r1
  obtain ⟨v3, vs3, d3, ds3, p3, q3, rfl, rfl, rfl, h3, r3⟩ := trodAll_cons r2
  obtain ⟨rfl, rfl, rfl⟩ := trodAll_nil r3
  obtain rfl : args = #[v0, v1, v2, v3] := by cases args; simp_all
  obtain ⟨rfl, rfl⟩ := trodVars_none hV
  obtain ⟨a0, rfl, rfl, rfl, w0⟩ := open_int Try.underlying5 (hval 0 5 v0 rfl rfl) h0
  obtain ⟨a1, rfl, rfl, rfl, w1⟩ := open_string Try.underlying9 (hval 1 9 v1 rfl rfl) h1
  obtain ⟨a2, rfl, rfl, rfl, w2⟩ := open_int Try.underlying5 (hval 2 5 v2 rfl rfl) h2
  obtain ⟨a3, rfl, rfl, rfl, w3⟩ := open_string Try.underlying9 (hval 3 9 v3 rfl rfl) h3
  clear hA0 hval0
  simp only [List.append_nil] at hW'
  refine (walk a0 a1 a2 a3 w1 w3 W).mono fun e W' ⟨he, bel⟩ => ?_
  subst he
  exact ⟨_, rfl, _, _, _, [], _, [], hW', (trodAll_cons_mk (shut_bool Try.underlying4 _) trodAll_mk0), (trodAll_cons_mk (shut_int Try.underlying5 w0) (trodAll_cons_mk (shut_string Try.underlying9 w1) (trodAll_cons_mk (shut_int Try.underlying5 w2) (trodAll_cons_mk (shut_string Try.underlying9 w3) trodAll_mk0)))), rfl, bel.frame _, fun h => by cases h⟩

theorem over : Rows.fnPromptTextMarshalInjectiveRow.holds Try.pinned (OpenSpec.ofChange Rows.fnPromptTextMarshalInjectiveSpec) :=
  OpenClaim.holds_of_wide 4 Try.f4 rfl rfl rfl rfl rfl rfl rfl ⟨rfl, rfl, rfl, rfl, rfl⟩ rfl rfl rfl rfl rfl (by kernel_rfl) Try.func4 (by kernel_rfl)
    (of_decide_eq_true (by kernel_rfl)) (by unfold Func.isWrapper; first | (rw [if_pos (by decide +kernel)]; kernel_rfl) | (rw [if_neg (by decide +kernel)]; exact ⟨rfl, rfl⟩))
    (fun os started H enc _ => lifted os started H enc)

end Go.Proofs.Qxb6615110a.fnPromptTextMarshalInjective
namespace Go.Proofs.Qxb6615110a
/-- The given statement. -/
theorem fnPromptTextMarshalInjective_proved : Rows.FnPromptTextMarshalInjectiveSaid := fnPromptTextMarshalInjective.over
end Go.Proofs.Qxb6615110a
