/-
  The proof of 'Rows.FnTerminalRequestMarshalInjectiveSaid'. The frame is the given shell (proof-skeleton.mjs), turned from 'Grown' to 'Below'.
-/
import Derived.Test.Qxb6615110aRows
import Derived.WalkKit
import Derived.ProofKit
import Derived.OpenShut
import Derived.ShutString
import Derived.Below
import Derived.WalkSmall
import Derived.Test.Qxb6615110aMarshal
import Derived.Test.Qxb6615110aSame
import Derived.Test.Qxb6615110aWindow
import Derived.Test.Qxb6615110aTerminal
namespace Go.Proofs.Qxb6615110a.fnTerminalRequestMarshalInjective
open Go.ChangeShapes Go.WideShapes Go.ChangeAt Go.RowKit
open Go.ChangeMaps (open_string shut_string)
set_option linter.unusedVariables false      -- a walk need not use every 'w<i>' (that an integer argument fits its kind)

theorem own : ownKnob Try.prog.godebug = none := by kernel_rfl

theorem zz10_yes (v0 v1 v2 v3 : Value) (s1 : ByteArray) (v5 v6 v7 v8 : Value) (s2 : ByteArray) (h : s1.size + s2.size ≤ 1048576) (w : World) :
    Calls Try.prog 10 #[v0, v1, v2, v3, .string s1, v5, v6, v7, v8, .string s2] w fun e w' => e = .returned (.bool true) ∧ w' = w := by
  go_enter Try.func10, Try.ntmps10
  go_wp2
  go_ret
  exact ⟨rfl, rfl⟩
theorem zz10_no (v0 v1 v2 v3 : Value) (s1 : ByteArray) (v5 v6 v7 v8 : Value) (s2 : ByteArray) (h1 : s1.size ≤ 9223372036854775807) (h2 : s2.size ≤ 9223372036854775807) (h : 1048576 < s1.size + s2.size) (w : World) :
    Calls Try.prog 10 #[v0, v1, v2, v3, .string s1, v5, v6, v7, v8, .string s2] w fun e w' => e = .returned (.bool false) ∧ w' = w := by
  by_cases ha : s1.size ≤ 1048576
  · by_cases hb : s2.size ≤ 1048576
    · go_enter Try.func10, Try.ntmps10
      go_wp2
      go_ret
      exact ⟨rfl, rfl⟩
    · go_enter Try.func10, Try.ntmps10
      go_wp2
      go_ret
      exact ⟨rfl, rfl⟩
  · go_enter Try.func10, Try.ntmps10
    go_wp2
    go_ret
    exact ⟨rfl, rfl⟩

/-- THE PLAIN LAW: the encoding is injective. -/
theorem tb_inj {a0 a1 a2 a3 b0 b1 b2 b3 : Int} {s t : ByteArray} (h : tbytes a0 a1 a2 a3 s = tbytes b0 b1 b2 b3 t) : a0 = b0 ∧ a1 = b1 ∧ a2 = b2 ∧ a3 = b3 ∧ s = t := by
  simp only [tbytes, wbytes, List.cons_append, List.nil_append, List.cons.injEq] at h
  obtain ⟨h0, h1, h2, h3, h4, h5, h6, h7, h8⟩ := h
  exact ⟨by omega, by omega, by omega, by omega, bytes_inj h8⟩

set_option maxHeartbeats 800000 in
theorem walk_same (a0 a1 a2 a3 : Int) (s : ByteArray) (B0 : Hid (0 ≤ a0 ∧ a0 ≤ 65535)) (B1 : Hid (0 ≤ a1 ∧ a1 ≤ 65535)) (B2 : Hid (0 ≤ a2 ∧ a2 ≤ 65535)) (B3 : Hid (0 ≤ a3 ∧ a3 ≤ 65535)) (h1 : s.size ≤ 524288) (w : World) :
    Calls Try.prog 5 #[.int .u16 a0, .int .u16 a1, .int .u16 a2, .int .u16 a3, .string s, .int .u16 a0, .int .u16 a1, .int .u16 a2, .int .u16 a3, .string s] w fun e w' => e = .returned (.bool true) ∧ Below w.heap.size w w' := by
  go_enter Try.func5, Try.ntmps5
  go_wp2_with (go_at_call 10; refine (zz10_yes _ _ _ _ _ _ _ _ _ _ (by omega) _).mono ?_; rintro e w' ⟨rfl, rfl⟩)
  refine (term_any _ _ _ _ _ B0.out B1.out B2.out B3.out (by omega) _).mono ?_
  rintro e u1 ⟨g1, c1, rfl, hg1, hl1, hr1, hb1⟩
  go_wp2_with fail
  refine (term_any _ _ _ _ _ B0.out B1.out B2.out B3.out (by omega) _).mono ?_
  rintro e u2 ⟨g2, c2, rfl, hg2, hl2, hr2, hb2⟩
  go_wp2_with fail
  refine (same_yes _ _ _ _ _ _ _ _ _ (hr1.later hb2 hl1) hr2 (tbytes_length _ _ _ _ _) (tbytes_length _ _ _ _ _) (by omega) (by omega) rfl).mono ?_
  rintro e u3 ⟨rfl, n3, rfl⟩
  go_wp2
  go_ret
  exact ⟨rfl, below_drewN (hb1.trans (hb2.mono (by have := hb1.size; omega))) n3⟩
set_option maxHeartbeats 800000 in
theorem walk_0 (a0 a1 a2 a3 : Int) (s : ByteArray) (b0 b1 b2 b3 : Int) (t : ByteArray) (B0 : Hid (0 ≤ a0 ∧ a0 ≤ 65535)) (B1 : Hid (0 ≤ a1 ∧ a1 ≤ 65535)) (B2 : Hid (0 ≤ a2 ∧ a2 ≤ 65535)) (B3 : Hid (0 ≤ a3 ∧ a3 ≤ 65535)) (C0 : Hid (0 ≤ b0 ∧ b0 ≤ 65535)) (C1 : Hid (0 ≤ b1 ∧ b1 ≤ 65535)) (C2 : Hid (0 ≤ b2 ∧ b2 ≤ 65535)) (C3 : Hid (0 ≤ b3 ∧ b3 ≤ 65535)) (h1 : s.size ≤ 524288) (h2 : t.size ≤ 524288) (hn : ¬ a0 = b0) (w : World) :
    Calls Try.prog 5 #[.int .u16 a0, .int .u16 a1, .int .u16 a2, .int .u16 a3, .string s, .int .u16 b0, .int .u16 b1, .int .u16 b2, .int .u16 b3, .string t] w fun e w' => e = .returned (.bool true) ∧ Below w.heap.size w w' := by
  have H : Hid (tbytes a0 a1 a2 a3 s ≠ tbytes b0 b1 b2 b3 t) := fun e => hn (tb_inj e).1
  have hq : (a0 == b0) = false := by simpa using hn
  go_enter Try.func5, Try.ntmps5
  go_wp2_with (go_at_call 10; refine (zz10_yes _ _ _ _ _ _ _ _ _ _ (by omega) _).mono ?_; rintro e w' ⟨rfl, rfl⟩)
  refine (term_any _ _ _ _ _ B0.out B1.out B2.out B3.out (by omega) _).mono ?_
  rintro e u1 ⟨g1, c1, rfl, hg1, hl1, hr1, hb1⟩
  go_wp2_with fail
  refine (term_any _ _ _ _ _ C0.out C1.out C2.out C3.out (by omega) _).mono ?_
  rintro e u2 ⟨g2, c2, rfl, hg2, hl2, hr2, hb2⟩
  go_wp2_with fail
  refine (same_no _ _ _ _ _ _ _ _ _ (hr1.later hb2 hl1) hr2 (tbytes_length _ _ _ _ _) (tbytes_length _ _ _ _ _) (by omega) (by omega) H.out).mono ?_
  rintro e u3 ⟨rfl, n3, rfl⟩
  go_wp2
  go_ret
  exact ⟨rfl, below_drewN (hb1.trans (hb2.mono (by have := hb1.size; omega))) n3⟩
set_option maxHeartbeats 800000 in
theorem walk_1 (a0 a1 a2 a3 : Int) (s : ByteArray) (b1 b2 b3 : Int) (t : ByteArray) (B0 : Hid (0 ≤ a0 ∧ a0 ≤ 65535)) (B1 : Hid (0 ≤ a1 ∧ a1 ≤ 65535)) (B2 : Hid (0 ≤ a2 ∧ a2 ≤ 65535)) (B3 : Hid (0 ≤ a3 ∧ a3 ≤ 65535)) (C1 : Hid (0 ≤ b1 ∧ b1 ≤ 65535)) (C2 : Hid (0 ≤ b2 ∧ b2 ≤ 65535)) (C3 : Hid (0 ≤ b3 ∧ b3 ≤ 65535)) (h1 : s.size ≤ 524288) (h2 : t.size ≤ 524288) (hn : ¬ a1 = b1) (w : World) :
    Calls Try.prog 5 #[.int .u16 a0, .int .u16 a1, .int .u16 a2, .int .u16 a3, .string s, .int .u16 a0, .int .u16 b1, .int .u16 b2, .int .u16 b3, .string t] w fun e w' => e = .returned (.bool true) ∧ Below w.heap.size w w' := by
  have H : Hid (tbytes a0 a1 a2 a3 s ≠ tbytes a0 b1 b2 b3 t) := fun e => hn (tb_inj e).2.1
  have hq : (a1 == b1) = false := by simpa using hn
  go_enter Try.func5, Try.ntmps5
  go_wp2_with (go_at_call 10; refine (zz10_yes _ _ _ _ _ _ _ _ _ _ (by omega) _).mono ?_; rintro e w' ⟨rfl, rfl⟩)
  refine (term_any _ _ _ _ _ B0.out B1.out B2.out B3.out (by omega) _).mono ?_
  rintro e u1 ⟨g1, c1, rfl, hg1, hl1, hr1, hb1⟩
  go_wp2_with fail
  refine (term_any _ _ _ _ _ B0.out C1.out C2.out C3.out (by omega) _).mono ?_
  rintro e u2 ⟨g2, c2, rfl, hg2, hl2, hr2, hb2⟩
  go_wp2_with fail
  refine (same_no _ _ _ _ _ _ _ _ _ (hr1.later hb2 hl1) hr2 (tbytes_length _ _ _ _ _) (tbytes_length _ _ _ _ _) (by omega) (by omega) H.out).mono ?_
  rintro e u3 ⟨rfl, n3, rfl⟩
  go_wp2
  go_ret
  exact ⟨rfl, below_drewN (hb1.trans (hb2.mono (by have := hb1.size; omega))) n3⟩
set_option maxHeartbeats 800000 in
theorem walk_2 (a0 a1 a2 a3 : Int) (s : ByteArray) (b2 b3 : Int) (t : ByteArray) (B0 : Hid (0 ≤ a0 ∧ a0 ≤ 65535)) (B1 : Hid (0 ≤ a1 ∧ a1 ≤ 65535)) (B2 : Hid (0 ≤ a2 ∧ a2 ≤ 65535)) (B3 : Hid (0 ≤ a3 ∧ a3 ≤ 65535)) (C2 : Hid (0 ≤ b2 ∧ b2 ≤ 65535)) (C3 : Hid (0 ≤ b3 ∧ b3 ≤ 65535)) (h1 : s.size ≤ 524288) (h2 : t.size ≤ 524288) (hn : ¬ a2 = b2) (w : World) :
    Calls Try.prog 5 #[.int .u16 a0, .int .u16 a1, .int .u16 a2, .int .u16 a3, .string s, .int .u16 a0, .int .u16 a1, .int .u16 b2, .int .u16 b3, .string t] w fun e w' => e = .returned (.bool true) ∧ Below w.heap.size w w' := by
  have H : Hid (tbytes a0 a1 a2 a3 s ≠ tbytes a0 a1 b2 b3 t) := fun e => hn (tb_inj e).2.2.1
  have hq : (a2 == b2) = false := by simpa using hn
  go_enter Try.func5, Try.ntmps5
  go_wp2_with (go_at_call 10; refine (zz10_yes _ _ _ _ _ _ _ _ _ _ (by omega) _).mono ?_; rintro e w' ⟨rfl, rfl⟩)
  refine (term_any _ _ _ _ _ B0.out B1.out B2.out B3.out (by omega) _).mono ?_
  rintro e u1 ⟨g1, c1, rfl, hg1, hl1, hr1, hb1⟩
  go_wp2_with fail
  refine (term_any _ _ _ _ _ B0.out B1.out C2.out C3.out (by omega) _).mono ?_
  rintro e u2 ⟨g2, c2, rfl, hg2, hl2, hr2, hb2⟩
  go_wp2_with fail
  refine (same_no _ _ _ _ _ _ _ _ _ (hr1.later hb2 hl1) hr2 (tbytes_length _ _ _ _ _) (tbytes_length _ _ _ _ _) (by omega) (by omega) H.out).mono ?_
  rintro e u3 ⟨rfl, n3, rfl⟩
  go_wp2
  go_ret
  exact ⟨rfl, below_drewN (hb1.trans (hb2.mono (by have := hb1.size; omega))) n3⟩
set_option maxHeartbeats 800000 in
theorem walk_3 (a0 a1 a2 a3 : Int) (s : ByteArray) (b3 : Int) (t : ByteArray) (B0 : Hid (0 ≤ a0 ∧ a0 ≤ 65535)) (B1 : Hid (0 ≤ a1 ∧ a1 ≤ 65535)) (B2 : Hid (0 ≤ a2 ∧ a2 ≤ 65535)) (B3 : Hid (0 ≤ a3 ∧ a3 ≤ 65535)) (C3 : Hid (0 ≤ b3 ∧ b3 ≤ 65535)) (h1 : s.size ≤ 524288) (h2 : t.size ≤ 524288) (hn : ¬ a3 = b3) (w : World) :
    Calls Try.prog 5 #[.int .u16 a0, .int .u16 a1, .int .u16 a2, .int .u16 a3, .string s, .int .u16 a0, .int .u16 a1, .int .u16 a2, .int .u16 b3, .string t] w fun e w' => e = .returned (.bool true) ∧ Below w.heap.size w w' := by
  have H : Hid (tbytes a0 a1 a2 a3 s ≠ tbytes a0 a1 a2 b3 t) := fun e => hn (tb_inj e).2.2.2.1
  have hq : (a3 == b3) = false := by simpa using hn
  go_enter Try.func5, Try.ntmps5
  go_wp2_with (go_at_call 10; refine (zz10_yes _ _ _ _ _ _ _ _ _ _ (by omega) _).mono ?_; rintro e w' ⟨rfl, rfl⟩)
  refine (term_any _ _ _ _ _ B0.out B1.out B2.out B3.out (by omega) _).mono ?_
  rintro e u1 ⟨g1, c1, rfl, hg1, hl1, hr1, hb1⟩
  go_wp2_with fail
  refine (term_any _ _ _ _ _ B0.out B1.out B2.out C3.out (by omega) _).mono ?_
  rintro e u2 ⟨g2, c2, rfl, hg2, hl2, hr2, hb2⟩
  go_wp2_with fail
  refine (same_no _ _ _ _ _ _ _ _ _ (hr1.later hb2 hl1) hr2 (tbytes_length _ _ _ _ _) (tbytes_length _ _ _ _ _) (by omega) (by omega) H.out).mono ?_
  rintro e u3 ⟨rfl, n3, rfl⟩
  go_wp2
  go_ret
  exact ⟨rfl, below_drewN (hb1.trans (hb2.mono (by have := hb1.size; omega))) n3⟩
set_option maxHeartbeats 800000 in
theorem walk_4 (a0 a1 a2 a3 : Int) (s : ByteArray) (t : ByteArray) (B0 : Hid (0 ≤ a0 ∧ a0 ≤ 65535)) (B1 : Hid (0 ≤ a1 ∧ a1 ≤ 65535)) (B2 : Hid (0 ≤ a2 ∧ a2 ≤ 65535)) (B3 : Hid (0 ≤ a3 ∧ a3 ≤ 65535)) (h1 : s.size ≤ 524288) (h2 : t.size ≤ 524288) (hn : ¬ s = t) (w : World) :
    Calls Try.prog 5 #[.int .u16 a0, .int .u16 a1, .int .u16 a2, .int .u16 a3, .string s, .int .u16 a0, .int .u16 a1, .int .u16 a2, .int .u16 a3, .string t] w fun e w' => e = .returned (.bool true) ∧ Below w.heap.size w w' := by
  have H : Hid (tbytes a0 a1 a2 a3 s ≠ tbytes a0 a1 a2 a3 t) := fun e => hn (tb_inj e).2.2.2.2
  have hq := str_ne hn
  clear hn
  go_enter Try.func5, Try.ntmps5
  go_wp2_with (go_at_call 10; refine (zz10_yes _ _ _ _ _ _ _ _ _ _ (by omega) _).mono ?_; rintro e w' ⟨rfl, rfl⟩)
  refine (term_any _ _ _ _ _ B0.out B1.out B2.out B3.out (by omega) _).mono ?_
  rintro e u1 ⟨g1, c1, rfl, hg1, hl1, hr1, hb1⟩
  go_wp2_with fail
  refine (term_any _ _ _ _ _ B0.out B1.out B2.out B3.out (by omega) _).mono ?_
  rintro e u2 ⟨g2, c2, rfl, hg2, hl2, hr2, hb2⟩
  go_wp2_with fail
  refine (same_no _ _ _ _ _ _ _ _ _ (hr1.later hb2 hl1) hr2 (tbytes_length _ _ _ _ _) (tbytes_length _ _ _ _ _) (by omega) (by omega) H.out).mono ?_
  rintro e u3 ⟨rfl, n3, rfl⟩
  go_wp2
  go_ret
  exact ⟨rfl, below_drewN (hb1.trans (hb2.mono (by have := hb1.size; omega))) n3⟩

theorem walk (a0 a1 a2 a3 : Int) (a4 : ByteArray) (a5 a6 a7 a8 : Int) (a9 : ByteArray) (w0 : (Lit.int .u16 a0).wf = true) (w1 : (Lit.int .u16 a1).wf = true) (w2 : (Lit.int .u16 a2).wf = true) (w3 : (Lit.int .u16 a3).wf = true) (w5 : (Lit.int .u16 a5).wf = true) (w6 : (Lit.int .u16 a6).wf = true) (w7 : (Lit.int .u16 a7).wf = true) (w8 : (Lit.int .u16 a8).wf = true) (w4 : a4.size ≤ maxLen) (w9 : a9.size ≤ maxLen) (w : World) :
    Calls Try.prog 5 #[.int .u16 a0, .int .u16 a1, .int .u16 a2, .int .u16 a3, .string a4, .int .u16 a5, .int .u16 a6, .int .u16 a7, .int .u16 a8, .string a9] w fun e w' => e = .returned (.bool true) ∧ Below w.heap.size w w' := by
  unfold maxLen at w4 w9
  by_cases h1 : a4.size ≤ 524288
  · by_cases h2 : a9.size ≤ 524288
    · have B0 := bounds_u16 w0
      have B1 := bounds_u16 w1
      have B2 := bounds_u16 w2
      have B3 := bounds_u16 w3
      have C0 := bounds_u16 w5
      have C1 := bounds_u16 w6
      have C2 := bounds_u16 w7
      have C3 := bounds_u16 w8
      by_cases e0 : a0 = a5
      · subst e0
        by_cases e1 : a1 = a6
        · subst e1
          by_cases e2 : a2 = a7
          · subst e2
            by_cases e3 : a3 = a8
            · subst e3
              by_cases e4 : a4 = a9
              · subst e4
                exact walk_same a0 a1 a2 a3 a4 B0 B1 B2 B3 h1 w
              · exact walk_4 a0 a1 a2 a3 a4 a9 B0 B1 B2 B3 h1 h2 e4 w
            · exact walk_3 a0 a1 a2 a3 a4 a8 a9 B0 B1 B2 B3 C3 h1 h2 e3 w
          · exact walk_2 a0 a1 a2 a3 a4 a7 a8 a9 B0 B1 B2 B3 C2 C3 h1 h2 e2 w
        · exact walk_1 a0 a1 a2 a3 a4 a6 a7 a8 a9 B0 B1 B2 B3 C1 C2 C3 h1 h2 e1 w
      · exact walk_0 a0 a1 a2 a3 a4 a5 a6 a7 a8 a9 B0 B1 B2 B3 C0 C1 C2 C3 h1 h2 e0 w
    · clear w0 w1 w2 w3 w5 w6 w7 w8
      by_cases h3 : a4.size + a9.size ≤ 1048576
      · go_enter Try.func5, Try.ntmps5
        go_wp2_with (go_at_call 10; refine (zz10_yes _ _ _ _ _ _ _ _ _ _ (by omega) _).mono ?_; rintro e w' ⟨rfl, rfl⟩)
        go_ret
        exact ⟨rfl, Below.refl _ _⟩
      · go_enter Try.func5, Try.ntmps5
        go_wp2_with (go_at_call 10; refine (zz10_no _ _ _ _ _ _ _ _ _ _ (by omega) (by omega) (by omega) _).mono ?_; rintro e w' ⟨rfl, rfl⟩)
        go_ret
        exact ⟨rfl, Below.refl _ _⟩
  · clear w0 w1 w2 w3 w5 w6 w7 w8
    by_cases h3 : a4.size + a9.size ≤ 1048576
    · go_enter Try.func5, Try.ntmps5
      go_wp2_with (go_at_call 10; refine (zz10_yes _ _ _ _ _ _ _ _ _ _ (by omega) _).mono ?_; rintro e w' ⟨rfl, rfl⟩)
      go_ret
      exact ⟨rfl, Below.refl _ _⟩
    · go_enter Try.func5, Try.ntmps5
      go_wp2_with (go_at_call 10; refine (zz10_no _ _ _ _ _ _ _ _ _ _ (by omega) (by omega) (by omega) _).mono ?_; rintro e w' ⟨rfl, rfl⟩)
      go_ret
      exact ⟨rfl, Below.refl _ _⟩

/-! ### THE ROW's STEP -/
set_option maxRecDepth 100000 in
theorem lifted (os : Os) (started : os.Started) (H : Type) (enc : TypeId × Value → H) :
    ReturnsInHanded {} Try.checked os 5 .any (Rows.fnTerminalRequestMarshalInjectiveSpec.pre6 enc Try.prog Try.f5 Rows.fnTerminalRequestMarshalInjectiveRow.domain false) (Rows.fnTerminalRequestMarshalInjectiveSpec.post enc Try.prog Try.f5 false true false false) := by
  refine returnsInHanded_of_change (C := Try.checked) own started (by kernel_rfl) Try.func5
    (ChangeSpec.witness6 (enc := enc) (C := Try.checked) false ⟨#[], #[.int .u16 0, .int .u16 0, .int .u16 0, .int .u16 0, .string ByteArray.empty, .int .u16 0, .int .u16 0, .int .u16 0, .int .u16 0, .string ByteArray.empty], []⟩ 8 (by kernel_rfl) (by kernel_rfl) (by kernel_rfl) (by kernel_rfl)) ?_
  intro W base args ds gs before hval0 hW hcnd _
  have hval : ∀ (j : Nat) t v, Try.f5.params[j]? = some t → args[j]? = some v → Value.okWide Try.prog W .any base t v := hval0
  have hW' := hW
  obtain ⟨p, q, hA0, hV, rfl, hfz, hnd⟩ := hW
  have hA : DataW.TrodAll enc Try.prog W 0 (fun _ => true) true Try.f5.params.toList args.toList ds p := hA0
  rw [Try.params5] at hA hval
  obtain ⟨v0, vs0, d0, ds0, p0, q0, hargs, rfl, rfl, h0, r0⟩ := trodAll_cons hA
  obtain ⟨v1, vs1, d1, ds1, p1, q1, rfl, rfl, rfl, h1, r1⟩ := trodAll_cons r0
  obtain ⟨v2, vs2, d2, ds2, p2, q2, rfl, rfl, rfl, h2, r2⟩ := trodAll_cons r1
  obtain ⟨v3, vs3, d3, ds3, p3, q3, rfl, rfl, rfl, h3, r3⟩ := trodAll_cons r2
  obtain ⟨v4, vs4, d4, ds4, p4, q4, rfl, rfl, rfl, h4, r4⟩ := trodAll_cons r3
  obtain ⟨v5, vs5, d5, ds5, p5, q5, rfl, rfl, rfl, h5, r5⟩ := trodAll_cons r4
  obtain ⟨v6, vs6, d6, ds6, p6, q6, rfl, rfl, rfl, h6, r6⟩ := trodAll_cons r5
  obtain ⟨v7, vs7, d7, ds7, p7, q7, rfl, rfl, rfl, h7, r7⟩ := trodAll_cons r6
  obtain ⟨v8, vs8, d8, ds8, p8, q8, rfl, rfl, rfl, h8, r8⟩ := trodAll_cons r7
  obtain ⟨v9, vs9, d9, ds9, p9, q9, rfl, rfl, rfl, h9, r9⟩ := trodAll_cons r8
  obtain ⟨rfl, rfl, rfl⟩ := trodAll_nil r9
  obtain rfl : args = #[v0, v1, v2, v3, v4, v5, v6, v7, v8, v9] := by cases args; simp_all
  obtain ⟨rfl, rfl⟩ := trodVars_none hV
  obtain ⟨a0, rfl, rfl, rfl, w0⟩ := open_int Try.underlying30 (hval 0 30 v0 rfl rfl) h0
  obtain ⟨a1, rfl, rfl, rfl, w1⟩ := open_int Try.underlying30 (hval 1 30 v1 rfl rfl) h1
  obtain ⟨a2, rfl, rfl, rfl, w2⟩ := open_int Try.underlying30 (hval 2 30 v2 rfl rfl) h2
  obtain ⟨a3, rfl, rfl, rfl, w3⟩ := open_int Try.underlying30 (hval 3 30 v3 rfl rfl) h3
  obtain ⟨a4, rfl, rfl, rfl, w4⟩ := open_string Try.underlying9 (hval 4 9 v4 rfl rfl) h4
  obtain ⟨a5, rfl, rfl, rfl, w5⟩ := open_int Try.underlying30 (hval 5 30 v5 rfl rfl) h5
  obtain ⟨a6, rfl, rfl, rfl, w6⟩ := open_int Try.underlying30 (hval 6 30 v6 rfl rfl) h6
  obtain ⟨a7, rfl, rfl, rfl, w7⟩ := open_int Try.underlying30 (hval 7 30 v7 rfl rfl) h7
  obtain ⟨a8, rfl, rfl, rfl, w8⟩ := open_int Try.underlying30 (hval 8 30 v8 rfl rfl) h8
  obtain ⟨a9, rfl, rfl, rfl, w9⟩ := open_string Try.underlying9 (hval 9 9 v9 rfl rfl) h9
  clear hA0 hval0
  simp only [List.append_nil] at hW'
  refine (walk a0 a1 a2 a3 a4 a5 a6 a7 a8 a9 w0 w1 w2 w3 w5 w6 w7 w8 w4 w9 W).mono fun e W' ⟨he, bel⟩ => ?_
  subst he
  exact ⟨_, rfl, _, _, _, [], _, [], hW', (trodAll_cons_mk (shut_bool Try.underlying4 _) trodAll_mk0), (trodAll_cons_mk (shut_int Try.underlying30 w0) (trodAll_cons_mk (shut_int Try.underlying30 w1) (trodAll_cons_mk (shut_int Try.underlying30 w2) (trodAll_cons_mk (shut_int Try.underlying30 w3) (trodAll_cons_mk (shut_string Try.underlying9 w4) (trodAll_cons_mk (shut_int Try.underlying30 w5) (trodAll_cons_mk (shut_int Try.underlying30 w6) (trodAll_cons_mk (shut_int Try.underlying30 w7) (trodAll_cons_mk (shut_int Try.underlying30 w8) (trodAll_cons_mk (shut_string Try.underlying9 w9) trodAll_mk0)))))))))), rfl, bel.frame _, fun h => by cases h⟩

theorem over : Rows.fnTerminalRequestMarshalInjectiveRow.holds Try.pinned (OpenSpec.ofChange Rows.fnTerminalRequestMarshalInjectiveSpec) :=
  OpenClaim.holds_of_wide 5 Try.f5 rfl rfl rfl rfl rfl rfl rfl ⟨rfl, rfl, rfl, rfl, rfl⟩ rfl rfl rfl rfl rfl (by kernel_rfl) Try.func5 (by kernel_rfl)
    (of_decide_eq_true (by kernel_rfl)) (by unfold Func.isWrapper; first | (rw [if_pos (by decide +kernel)]; kernel_rfl) | (rw [if_neg (by decide +kernel)]; exact ⟨rfl, rfl⟩))
    (fun os started H enc _ => lifted os started H enc)

end Go.Proofs.Qxb6615110a.fnTerminalRequestMarshalInjective
namespace Go.Proofs.Qxb6615110a
/-- The given statement. -/
theorem fnTerminalRequestMarshalInjective_proved : Rows.FnTerminalRequestMarshalInjectiveSaid := fnTerminalRequestMarshalInjective.over
end Go.Proofs.Qxb6615110a
