/-
  The proof of 'Rows.FnPromptTextMarshalCutAndKindSaid'. The frame is the given shell (proof-skeleton.mjs), turned from 'Grown' to 'Below'.
-/
import Derived.Test.Qxb6615110aRows
import Derived.WalkKit
import Derived.ProofKit
import Derived.OpenShut
import Derived.ShutString
import Derived.Below
import Derived.WalkSmall
import Derived.WalkSpells
import Derived.Lib.Strings
import Derived.Test.Qxb6615110aMarshal
import Derived.Test.Qxb6615110aSame
namespace Go.Proofs.Qxb6615110a.fnPromptTextMarshalCutAndKind
open Go.ChangeShapes Go.WideShapes Go.ChangeAt Go.RowKit
open Go.ChangeMaps (open_string shut_string)
set_option linter.unusedVariables false      -- a walk need not use every 'w<i>' (that an integer argument fits its kind)

theorem own : ownKnob Try.prog.godebug = none := by kernel_rfl

theorem zz6_yes (a0 a2 : Value) (s1 : ByteArray) (h : s1.size ≤ 1048576) (w : World) :
    Calls Try.prog 6 #[a0, .string s1, a2] w fun e w' => e = .returned (.bool true) ∧ w' = w := by
  go_enter Try.func6, Try.ntmps6
  go_wp2
  go_ret
  exact ⟨rfl, rfl⟩
theorem zz6_no (a0 a2 : Value) (s1 : ByteArray) (h1 : s1.size ≤ 9223372036854775807) (h : 1048576 < s1.size) (w : World) :
    Calls Try.prog 6 #[a0, .string s1, a2] w fun e w' => e = .returned (.bool false) ∧ w' = w := by
  go_enter Try.func6, Try.ntmps6
  go_wp2
  go_ret
  exact ⟨rfl, rfl⟩

theorem marshal_len (k : Int) (t : ByteArray) (n : Nat) (hn : Hid (t.size = n)) (hs : n ≤ 1048576) (w : World) :
    Calls Try.prog 7 #[.agg #[.int .u8 k, .string t]] w fun e w' => ∃ g cap, e = .returned (.slice (some ⟨g, 0, none⟩) (1 + n) cap) ∧ w.heap.size ≤ g ∧ g < w'.heap.size ∧ RowIs w' g (pbytes k t) ∧ Below w.heap.size w w' := by
  have h := hn.out
  subst h
  exact marshal_any k t hs w

theorem pb_tail (k : Int) (s : ByteArray) (j : Nat) (h : j < s.size) : (pbytes k s).getD (1 + j) 0 = (s[j].toNat : Int) := by
  have hj : j < s.data.toList.length := by simpa using h
  rw [Nat.add_comm]
  simp only [pbytes, List.getD_eq_getElem?_getD, List.getElem?_cons_succ, List.getElem?_map]
  rw [List.getElem?_eq_getElem hj]
  rfl

theorem ex_size (s : ByteArray) (n : Nat) (h : n ≤ s.size) : (s.extract 0 n).size = n := by simp; omega

theorem pb_cut (k : Int) (s : ByteArray) (n j : Nat) (h : n ≤ s.size) (hj : j < 1 + n) : (pbytes k (s.extract 0 n)).getD j 0 = (pbytes k s).getD j 0 := by
  match j with
  | 0 => rfl
  | j + 1 =>
    simp only [pbytes, List.getD_eq_getElem?_getD, List.getElem?_cons_succ, List.getElem?_map]
    rw [Lib.extract_data]
    simp only [List.drop_zero, Nat.sub_zero]
    rw [List.getElem?_take_of_lt (by omega)]

/-- THE TWO ROWS AND THE TEXT, cell by cell. -/
theorem facts (k : Int) (s : ByteArray) (n g1 g2 : Nat) (u1 u2 : World) (hn : n ≤ s.size) (hr1 : RowIs u1 g1 (pbytes k s)) (hl1 : g1 < u1.heap.size) (hr2 : RowIs u2 g2 (pbytes k (s.extract 0 n))) (hb2 : Below u1.heap.size u1 u2) :
    (∀ j, j < 1 + n → ∃ x, u2.cell? ⟨g1, j, none⟩ = some (.int .u8 x) ∧ u2.cell? ⟨g2, j, none⟩ = some (.int .u8 x)) ∧
    (∀ j (h : j < s.size), u2.cell? ⟨g1, 1 + j, none⟩ = some (.int .u8 (s[j].toNat : Int))) ∧ u2.cell? ⟨g1, 0, none⟩ = some (.int .u8 k) := by
  have r1 := hr1.later hb2 hl1
  have l1 := pbytes_length k s
  have l2 := pbytes_length k (s.extract 0 n)
  rw [ex_size s n hn] at l2
  refine ⟨fun j hj => ⟨(pbytes k s).getD j 0, r1 j (by omega), ?_⟩, fun j h => ?_, r1 0 (by omega)⟩
  · rw [hr2 j (by omega), pb_cut k s n j hn hj]
  · rw [r1 (1 + j) (by omega), pb_tail k s j h]

set_option maxHeartbeats 800000 in
theorem main_walk (k : Int) (s : ByteArray) (n : Nat) (hs : s.size ≤ 1048576) (hn : n ≤ s.size) (w : World) :
    Calls Try.prog 3 #[.int .u8 k, .string s, .int .i64 n] w fun e w' => e = .returned (.bool true) ∧ Below w.heap.size w w' := by
  go_enter Try.func3, Try.ntmps3
  go_wp2_with (go_at_call 6; refine (zz6_yes _ _ _ (by omega) _).mono ?_; rintro e w' ⟨rfl, rfl⟩)
  refine (marshal_any _ _ (by omega) _).mono ?_
  rintro e u1 ⟨g1, c1, rfl, hg1, hl1, hr1, hb1⟩
  go_wp2_with fail
  refine (marshal_len _ _ n (ex_size s n hn) (by omega) _).mono ?_
  rintro e u2 ⟨g2, c2, rfl, hg2, hl2, hr2, hb2⟩
  obtain ⟨f1, f2, f3⟩ := facts k s n g1 g2 u1 u2 hn hr1 hl1 hr2 hb2
  have HB : Below w'.heap.size w' u2 := hb1.trans (hb2.mono (by have := hb1.size; omega))
  clear hr1 hr2 hb1 hb2 hg1 hg2 hl1 hl2
  go_wp2
  go_loopw [9] (fun i wr => ∃ j : Nat, j ≤ 1 + n ∧ i = .int .i64 j ∧ ∃ m, wr = u2.drewN m) (fun i _ => 1 + n - (intOf i).toNat)
  case atStart => exact ⟨0, by omega, rfl, 0, rfl⟩
  case round =>
    obtain ⟨j, hj, rfl, m, rfl⟩ := hrel
    by_cases hlt : j < 1 + n
    · obtain ⟨x, cA, cB⟩ := f1 j hlt
      have i0 : (0 : Int) ≤ (j : Int) := by omega
      have i1 : (j : Int) < ((1 + n : Nat) : Int) := by omega
      have i2 : (j : Int) < ((1 + s.size : Nat) : Int) := by omega
      clear f1 f2 f3
      go_wp2
      go_quiet (fail)
      go_wp2
      go_roundw
      case rel => exact ⟨j + 1, by omega, by go_num, m + nq, by simp⟩
      case measure => simp [intOf]; omega
    · clear f1
      go_wp2
      go_loopw [10] (fun i wr => ∃ j : Nat, n ≤ j ∧ j ≤ s.size ∧ i = .int .i64 j ∧ ∃ m, wr = u2.drewN m) (fun i _ => s.size - (intOf i).toNat)
      case atStart => exact ⟨n, by omega, by omega, rfl, m, rfl⟩
      case round =>
        obtain ⟨i, hi1, hi2, rfl, p, rfl⟩ := hrel
        by_cases hlt2 : i < s.size
        · have cA := f2 i hlt2
          have i0 : (0 : Int) ≤ (i : Int) := by omega
          have i1 : (i : Int) < (s.size : Int) := by omega
          have i2 : (1 : Int) + (i : Int) < ((1 + s.size : Nat) : Int) := by omega
          clear f2 f3
          go_wp2
          go_quiet (fail)
          go_wp2
          go_roundw
          case rel => exact ⟨i + 1, by omega, by omega, by go_num, p + nq, by simp⟩
          case measure => simp [intOf]; omega
        · clear f2
          go_wp2
          go_ret
          exact ⟨rfl, below_drewN HB p⟩

theorem walk (a0 : Int) (a1 : ByteArray) (a2 : Int) (w1 : a1.size ≤ maxLen) (w2 : (Lit.int .i64 a2).wf = true) (w : World) :
    Calls Try.prog 3 #[.int .u8 a0, .string a1, .int .i64 a2] w fun e w' => e = .returned (.bool true) ∧ Below w.heap.size w w' := by
  unfold maxLen at w1
  have hb2 := bounds_i64 w2
  by_cases h1 : a1.size ≤ 1048576
  · by_cases h2 : a2 < 0
    · go_enter Try.func3, Try.ntmps3
      go_wp2_with (go_at_call 6; refine (zz6_yes _ _ _ (by omega) _).mono ?_; rintro e w' ⟨rfl, rfl⟩)
      go_ret
      exact ⟨rfl, Below.refl _ _⟩
    · by_cases h3 : a2 ≤ a1.size
      · obtain ⟨n, rfl⟩ : ∃ n : Nat, a2 = n := ⟨a2.toNat, by omega⟩
        exact main_walk a0 a1 n h1 (by omega) w
      · go_enter Try.func3, Try.ntmps3
        go_wp2_with (go_at_call 6; refine (zz6_yes _ _ _ (by omega) _).mono ?_; rintro e w' ⟨rfl, rfl⟩)
        go_ret
        exact ⟨rfl, Below.refl _ _⟩
  · go_enter Try.func3, Try.ntmps3
    go_wp2_with (go_at_call 6; refine (zz6_no _ _ _ (by omega) (by omega) _).mono ?_; rintro e w' ⟨rfl, rfl⟩)
    go_ret
    exact ⟨rfl, Below.refl _ _⟩

/-! ### THE ROW's STEP -/
set_option maxRecDepth 100000 in
theorem lifted (os : Os) (started : os.Started) (H : Type) (enc : TypeId × Value → H) :
    ReturnsInHanded {} Try.checked os 3 .any (Rows.fnPromptTextMarshalCutAndKindSpec.pre6 enc Try.prog Try.f3 Rows.fnPromptTextMarshalCutAndKindRow.domain false) (Rows.fnPromptTextMarshalCutAndKindSpec.post enc Try.prog Try.f3 false true false false) := by
  refine returnsInHanded_of_change (C := Try.checked) own started (by kernel_rfl) Try.func3
    (ChangeSpec.witness6 (enc := enc) (C := Try.checked) false ⟨#[], #[.int .u8 0, .string ByteArray.empty, .int .i64 0], []⟩ 8 (by kernel_rfl) (by kernel_rfl) (by kernel_rfl) (by kernel_rfl)) ?_
  intro W base args ds gs before hval0 hW hcnd _
  have hval : ∀ (j : Nat) t v, Try.f3.params[j]? = some t → args[j]? = some v → Value.okWide Try.prog W .any base t v := hval0
  have hW' := hW
  obtain ⟨p, q, hA0, hV, rfl, hfz, hnd⟩ := hW
  have hA : DataW.TrodAll enc Try.prog W 0 (fun _ => true) true Try.f3.params.toList args.toList ds p := hA0
  rw [Try.params3] at hA hval
  obtain ⟨v0, vs0, d0, ds0, p0, q0, hargs, rfl, rfl, h0, r0⟩ := trodAll_cons hA
  obtain ⟨v1, vs1, d1, ds1, p1, q1, rfl, rfl, rfl, h1, r1⟩ := trodAll_cons r0
  obtain ⟨v2, vs2, d2, ds2, p2, q2, rfl, rfl, rfl, h2, r2⟩ := trodAll_cons r1
  obtain ⟨rfl, rfl, rfl⟩ := trodAll_nil r2
  obtain rfl : args = #[v0, v1, v2] := by cases args; simp_all
  obtain ⟨rfl, rfl⟩ := trodVars_none hV
  obtain ⟨a0, rfl, rfl, rfl, w0⟩ := open_int Try.underlying5 (hval 0 5 v0 rfl rfl) h0
  obtain ⟨a1, rfl, rfl, rfl, w1⟩ := open_string Try.underlying9 (hval 1 9 v1 rfl rfl) h1
  obtain ⟨a2, rfl, rfl, rfl, w2⟩ := open_int Try.underlying3 (hval 2 3 v2 rfl rfl) h2
  clear hA0 hval0
  simp only [List.append_nil] at hW'
  refine (walk a0 a1 a2 w1 w2 W).mono fun e W' ⟨he, bel⟩ => ?_
  subst he
  exact ⟨_, rfl, _, _, _, [], _, [], hW', (trodAll_cons_mk (shut_bool Try.underlying4 _) trodAll_mk0), (trodAll_cons_mk (shut_int Try.underlying5 w0) (trodAll_cons_mk (shut_string Try.underlying9 w1) (trodAll_cons_mk (shut_int Try.underlying3 w2) trodAll_mk0))), rfl, bel.frame _, fun h => by cases h⟩

theorem over : Rows.fnPromptTextMarshalCutAndKindRow.holds Try.pinned (OpenSpec.ofChange Rows.fnPromptTextMarshalCutAndKindSpec) :=
  OpenClaim.holds_of_wide 3 Try.f3 rfl rfl rfl rfl rfl rfl rfl ⟨rfl, rfl, rfl, rfl, rfl⟩ rfl rfl rfl rfl rfl (by kernel_rfl) Try.func3 (by kernel_rfl)
    (of_decide_eq_true (by kernel_rfl)) (by unfold Func.isWrapper; first | (rw [if_pos (by decide +kernel)]; kernel_rfl) | (rw [if_neg (by decide +kernel)]; exact ⟨rfl, rfl⟩))
    (fun os started H enc _ => lifted os started H enc)

end Go.Proofs.Qxb6615110a.fnPromptTextMarshalCutAndKind
namespace Go.Proofs.Qxb6615110a
/-- The given statement. -/
theorem fnPromptTextMarshalCutAndKind_proved : Rows.FnPromptTextMarshalCutAndKindSaid := fnPromptTextMarshalCutAndKind.over
end Go.Proofs.Qxb6615110a
