/-
  The proof of 'Rows.FnFourByteIndexStepsByOneToTheNextCodeSaid'. The frame is the given shell (proof-skeleton.mjs).
-/
import Derived.Test.Qxb6608952aRows
import Derived.WalkKit
import Derived.ProofKit
import Derived.OpenShut
import Derived.ShutString
import Derived.ChangeOld
import Derived.Below
import Derived.Test.Qxb6608952aWalks
import Derived.Test.Qxb6608952aNext
namespace Go.Proofs.Qxb6608952a.fnFourByteIndexStepsByOneToTheNextCode
open Go.ChangeShapes Go.WideShapes Go.ChangeAt Go.RowKit
open Go.ChangeMaps (open_string shut_string)
set_option linter.unusedVariables false

theorem own : ownKnob Try.prog.godebug = none := by kernel_rfl
theorem laidOut : laidOutB Try.prog = true := by kernel_rfl

/-- WHAT THE WALK IS TOLD OF A SLICE OF INTEGERS THAT CAME IN: it is nil; or it leads to a row of 'cap' cells, the numbers 'zs' (the first 'len' are its elements, the rest its spare room), each fitting its kind. -/
def IsRow (k : IntKind) (w : World) (a : Option Addr) (len cap : Nat) (zs : List Int) : Prop :=
  (a = none ∧ len = 0 ∧ cap = 0 ∧ zs = []) ∨
  ∃ x, a = some x ∧ len ≤ cap ∧ cap ≤ maxLen ∧ zs.length = cap ∧ (∀ i, i < zs.length → w.cell? (x.add i) = some (.int k (zs.getD i 0))) ∧ ∀ n ∈ zs, (Lit.int k n).wf = true

theorem zz16_yes (a : Option Addr) (n c : Nat) (h : n ≤ 1048576) (w : World) :
    Calls Try.prog 16 #[.slice a n c] w fun e w' => e = .returned (.bool true) ∧ w' = w := by
  go_enter Try.func16, Try.ntmps16
  go_wp2
  go_ret
  exact ⟨rfl, rfl⟩
theorem zz16_no (a : Option Addr) (n c : Nat) (h0 : n ≤ 9223372036854775807) (h : 1048576 < n) (w : World) :
    Calls Try.prog 16 #[.slice a n c] w fun e w' => e = .returned (.bool false) ∧ w' = w := by
  go_enter Try.func16, Try.ntmps16
  go_wp2
  go_ret
  exact ⟨rfl, rfl⟩

set_option maxHeartbeats 1000000 in
theorem main6 (b off n c : Nat) (cs : List Value) (x0 x1 x2 x3 : Int) (hn4 : 4 ≤ n) (hn : n ≤ 1048576) (w : World) (hs : Src4 w b off n cs x0 x1 x2 x3) (hv : Valid x0 x1 x2 x3) :
    Calls Try.prog 6 #[.slice (some ⟨b, off, none⟩) n c] w fun e w' => e = .returned (.bool true) ∧ Below w.heap.size w w' := by
  obtain ⟨i0, hi, hz0, hz1, hz2⟩ := info_parts Try.info5
  obtain ⟨c0, c1, c2, c3⟩ := hs.four
  have hneq := fun (w : World) => run_neq_slice_nil_any (P := Try.prog) w 27 5 (some ⟨b, off, none⟩) n c 0 0 Try.underlying27
  have l0 : (0 : Int) < (n : Int) := by omega
  have l1 : (1 : Int) < (n : Int) := by omega
  have l2 : (2 : Int) < (n : Int) := by omega
  have l3 : (3 : Int) < (n : Int) := by omega
  go_enter Try.func6, Try.ntmps6
  go_wp2_with (first | (go_at_call 16; refine (zz16_yes _ _ _ hn _).mono ?_; rintro e w' ⟨rfl, hw⟩; obtain rfl := hw.symm; clear hw) | (go_at_call 13; refine (gb_yes b off n c x0 x1 x2 x3 hn4 hv _ c0 c1 c2 c3).mono ?_; rintro e w' ⟨rfl, hw⟩; obtain rfl := hw.symm; clear hw) | (at_make; refine wpList_make_full _ rfl (.tmp 20) (.tmp 20) 27 rfl w.heap.size 5 i0 (.int .u8 0) 1 Try.underlying27 hi hz0 hz1 .i64 .i64 _ _ n rfl rfl rfl rfl (by rw [hz2]; omega) (by unfold maxLen; omega) (Nat.le_refl _) ?_; intro u1 own1 gr1; obtain ⟨cur, hblk, hlen⟩ := made_block own1; obtain ⟨u2, hcopy, ⟨k0, k1, k2, k3⟩, hb2⟩ := copy_run (c := c) hs hn4 ((Below.refl _ _).grown gr1 (Nat.le_refl _) (by simp)) (Nat.le_refl _) hblk hlen; have hz : w.heap.size < u2.heap.size := block_lt_of_cell k0; clear own1 gr1 hlen hblk))
  refine (idx14 w.heap.size 0 n n x0 x1 x2 x3 hn4 hv _ (by exact k0) (by exact k1) (by exact k2) (by exact k3)).mono ?_
  rintro e u3 ⟨rfl, m1, rfl⟩
  clear c0 c1 c2 c3 hs hcopy
  have bd := idx_bounds hv
  obtain ⟨bd0, bd1⟩ := bd
  go_wp2
  go_region
  all_goals
    go_wp2_with fail
    refine (idx14 u2.heap.size 0 4 4 x0 x1 x2 x3 (by omega) hv _ ?_ ?_ ?_ ?_).mono ?_
    · exact new4 _ _ _ _ _ rfl rfl
    · exact new4 _ _ _ _ _ rfl rfl
    · exact new4 _ _ _ _ _ rfl rfl
    · exact new4 _ _ _ _ _ rfl rfl
    rintro e u4 ⟨rfl, m2, rfl⟩
    go_wp2_with fail
    refine (next_any u2.heap.size 0 4 4 x0 x1 x2 x3 (by omega) hv _ ?_ ?_ ?_ ?_).mono ?_
    · exact new4 _ _ _ _ _ rfl rfl
    · exact new4 _ _ _ _ _ rfl rfl
    · exact new4 _ _ _ _ _ rfl rfl
    · exact new4 _ _ _ _ _ rfl rfl
    rintro e u5 ⟨y0, y1, y2, y3, last, rfl, rfl, h⟩
    rcases h with ⟨rfl, hvy, hidx⟩ | ⟨rfl, hidx⟩
    · have hq : (idx y0 y1 y2 y3 == idx x0 x1 x2 x3 + 1) = true := by rw [hidx]; simp
      clear hidx
      go_wp2_with fail
      refine (idx14 (u2.heap.size + 1) 0 4 4 y0 y1 y2 y3 (by omega) hvy _ ?_ ?_ ?_ ?_).mono ?_
      · exact new4 _ _ _ _ _ (by simp) rfl
      · exact new4 _ _ _ _ _ (by simp) rfl
      · exact new4 _ _ _ _ _ (by simp) rfl
      · exact new4 _ _ _ _ _ (by simp) rfl
      rintro e u6 ⟨rfl, m3, rfl⟩
      go_wp2
      go_ret
      refine ⟨rfl, below_drewN ?_ _⟩
      exact (below_drewN ((below_drewN hb2 _).alloc (by simp; omega) _) _).alloc (by simp; omega) _
    · have hq : (idx x0 x1 x2 x3 == 1587599) = true := by rw [hidx]; rfl
      clear hidx
      go_wp2
      go_ret
      refine ⟨rfl, Below.drew ?_⟩
      exact (below_drewN ((below_drewN hb2 _).alloc (by simp; omega) _) _).alloc (by simp; omega) _

theorem walk (a0 : Option Addr) (len0 cap0 : Nat) (z0 : List Int) (w : World) (w0 : IsRow .u8 w a0 len0 cap0 z0) :
    Calls Try.prog 6 #[.slice a0 len0 cap0] w fun e w' => e = .returned (.bool true) ∧ Below w.heap.size w w' := by
  rcases w0 with ⟨rfl, rfl, rfl, rfl⟩ | ⟨x, rfl, hl, hm, hz, hcell, hwz⟩
  · go_enter Try.func6, Try.ntmps6
    go_wp2_with (first | (go_at_call 16; refine (zz16_yes _ _ _ (by omega) _).mono ?_; rintro e w' ⟨rfl, hw⟩; obtain rfl := hw.symm; clear hw) | (go_at_call 13; refine (gb_short _ _ _ (by omega) _).mono ?_; rintro e w' ⟨rfl, hw⟩; obtain rfl := hw.symm; clear hw))
    go_ret
    exact ⟨rfl, Below.refl _ _⟩
  · unfold maxLen at hm
    by_cases hbig : len0 ≤ 1048576
    · by_cases h4 : 4 ≤ len0
      · obtain ⟨b, off, rfl, hs⟩ := src4_of hl hz hcell h4
        clear hcell hwz
        by_cases hv : Valid (z0.getD 0 0) (z0.getD 1 0) (z0.getD 2 0) (z0.getD 3 0)
        · exact main6 b off len0 cap0 _ _ _ _ _ h4 hbig w hs hv
        · obtain ⟨c0, c1, c2, c3⟩ := hs.four
          clear hs hz
          generalize z0.getD 0 0 = x0 at *
          generalize z0.getD 1 0 = x1 at *
          generalize z0.getD 2 0 = x2 at *
          generalize z0.getD 3 0 = x3 at *
          go_enter Try.func6, Try.ntmps6
          go_wp2_with (first | (go_at_call 16; refine (zz16_yes _ _ _ (by omega) _).mono ?_; rintro e w' ⟨rfl, hw⟩; obtain rfl := hw.symm; clear hw) | (go_at_call 13; refine (gb_no b off len0 cap0 x0 x1 x2 x3 h4 hv _ c0 c1 c2 c3).mono ?_; rintro e w' ⟨rfl, hw⟩; obtain rfl := hw.symm; clear hw))
          go_ret
          exact ⟨rfl, Below.refl _ _⟩
      · clear hcell hwz hz
        go_enter Try.func6, Try.ntmps6
        go_wp2_with (first | (go_at_call 16; refine (zz16_yes _ _ _ (by omega) _).mono ?_; rintro e w' ⟨rfl, hw⟩; obtain rfl := hw.symm; clear hw) | (go_at_call 13; refine (gb_short _ _ _ (by omega) _).mono ?_; rintro e w' ⟨rfl, hw⟩; obtain rfl := hw.symm; clear hw))
        go_ret
        exact ⟨rfl, Below.refl _ _⟩
    · clear hcell hwz hz
      go_enter Try.func6, Try.ntmps6
      go_wp2_with (go_at_call 16; refine (zz16_no _ _ _ (by omega) (by omega) _).mono ?_; rintro e w' ⟨rfl, hw⟩; obtain rfl := hw.symm; clear hw)
      go_ret
      exact ⟨rfl, Below.refl _ _⟩

/-! ### THE ROW's STEP -/
set_option maxRecDepth 100000 in
theorem lifted (os : Os) (started : os.Started) (H : Type) (enc : TypeId × Value → H) :
    ReturnsInHanded {} Try.checked os 6 .any (Rows.fnFourByteIndexStepsByOneToTheNextCodeSpec.pre6 enc Try.prog Try.f6 Rows.fnFourByteIndexStepsByOneToTheNextCodeRow.domain false) (Rows.fnFourByteIndexStepsByOneToTheNextCodeSpec.post enc Try.prog Try.f6 false true false false) := by
  refine returnsInHanded_of_change (C := Try.checked) own started (by kernel_rfl) Try.func6
    (ChangeSpec.witness6 (enc := enc) (C := Try.checked) false ⟨#[], #[.slice none 0 0], []⟩ 8 (by kernel_rfl) (by kernel_rfl) (by kernel_rfl) (by kernel_rfl)) ?_
  intro W base args ds gs before hval0 hW hcnd _
  have hval : ∀ (j : Nat) t v, Try.f6.params[j]? = some t → args[j]? = some v → Value.okWide Try.prog W .any base t v := hval0
  have hW' := hW
  obtain ⟨p, q, hA0, hV, rfl, hfz, hnd⟩ := hW
  have hA : DataW.TrodAll enc Try.prog W 0 (fun _ => true) true Try.f6.params.toList args.toList ds p := hA0
  rw [Try.params6] at hA hval
  obtain ⟨v0, vs0, d0, ds0, p0, q0, hargs, rfl, rfl, h0, r0⟩ := trodAll_cons hA
  obtain ⟨rfl, rfl, rfl⟩ := trodAll_nil r0
  obtain rfl : args = #[v0] := by cases args; simp_all
  obtain ⟨rfl, rfl⟩ := trodVars_none hV
  obtain ⟨a0, len0, cap0, rfl⟩ := okWide_slice Try.underlying27 (hval 0 27 v0 rfl rfl)
  have k0 := h0
  have lt0 : ∀ x ∈ p0, x.block < W.heap.size := by obtain ⟨m, hm⟩ := k0; exact DataW.trod_lt m _ _ _ hm
  obtain ⟨z0, w0⟩ : ∃ zs, IsRow .u8 W a0 len0 cap0 zs := by
    obtain ⟨fuel, hf⟩ := h0
    rcases open_ints Try.underlying27 Try.underlying5 (by kernel_rfl) hf with ⟨hcs, _⟩ | ⟨x, l, c, zs, hcs, _, hl, hm, hz, _, hcell, hwz⟩
    · simp [Value.cells] at hcs
      obtain ⟨rfl, rfl, rfl⟩ := hcs
      exact ⟨[], .inl ⟨rfl, rfl, rfl, rfl⟩⟩
    · simp [Value.cells] at hcs
      obtain ⟨rfl, rfl, rfl⟩ := hcs
      exact ⟨zs, .inr ⟨_, rfl, hl, hm, by simpa using hz, hcell, hwz⟩⟩
  clear hA0 hval0
  refine (walk a0 len0 cap0 z0 W w0).mono fun e W' ⟨he, bel⟩ => ?_
  subst he
  exact ⟨_, rfl, _, _, _, [], _, [], hW', trodAll_mk1 (shut_bool Try.underlying4 _), (trodAll_cons_mk (Below.trod laidOut (by kernel_rfl) (of_decide_eq_true (by kernel_rfl)) k0 bel lt0) trodAll_mk0), rfl, bel.frame _, fun h => by cases h⟩

theorem over : Rows.fnFourByteIndexStepsByOneToTheNextCodeRow.holds Try.pinned (OpenSpec.ofChange Rows.fnFourByteIndexStepsByOneToTheNextCodeSpec) :=
  OpenClaim.holds_of_wide 6 Try.f6 rfl rfl rfl rfl rfl rfl rfl ⟨rfl, rfl, rfl, rfl, rfl⟩ rfl rfl rfl rfl rfl (by kernel_rfl) Try.func6 (by kernel_rfl)
    (of_decide_eq_true (by kernel_rfl)) (by unfold Func.isWrapper; first | (rw [if_pos (by decide +kernel)]; kernel_rfl) | (rw [if_neg (by decide +kernel)]; exact ⟨rfl, rfl⟩))
    (fun os started H enc _ => lifted os started H enc)

end Go.Proofs.Qxb6608952a.fnFourByteIndexStepsByOneToTheNextCode
namespace Go.Proofs.Qxb6608952a
/-- The given statement. -/
theorem fnFourByteIndexStepsByOneToTheNextCode_proved : Rows.FnFourByteIndexStepsByOneToTheNextCodeSaid := fnFourByteIndexStepsByOneToTheNextCode.over
end Go.Proofs.Qxb6608952a
