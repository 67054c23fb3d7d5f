/-
  The proof of 'Rows.FnFourByteIndexKeepsCodeOrderWithinItsRangeSaid'. The frame is the given shell (proof-skeleton.mjs).
-/
import Derived.Test.Qxb6608952aRows
import Derived.WalkKit
import Derived.ProofKit
import Derived.OpenShut
import Derived.ShutString
import Derived.ChangeOld
import Derived.Below
import Derived.Test.Qxb6608952aWalks
import Derived.Test.Qxb6608952aNext
import Derived.Deep.RegionWith
namespace Go.Proofs.Qxb6608952a.fnFourByteIndexKeepsCodeOrderWithinItsRange
open Go.ChangeShapes Go.WideShapes Go.ChangeAt Go.RowKit
open Go.ChangeMaps (open_string shut_string)
set_option linter.unusedVariables false

theorem own : ownKnob Try.prog.godebug = none := by kernel_rfl
theorem laidOut : laidOutB Try.prog = true := by kernel_rfl

/-- WHAT THE WALK IS TOLD OF A SLICE OF INTEGERS THAT CAME IN: it is nil; or it leads to a row of 'cap' cells, the numbers 'zs' (the first 'len' are its elements, the rest its spare room), each fitting its kind. -/
def IsRow (k : IntKind) (w : World) (a : Option Addr) (len cap : Nat) (zs : List Int) : Prop :=
  (a = none ∧ len = 0 ∧ cap = 0 ∧ zs = []) ∨
  ∃ x, a = some x ∧ len ≤ cap ∧ cap ≤ maxLen ∧ zs.length = cap ∧ (∀ i, i < zs.length → w.cell? (x.add i) = some (.int k (zs.getD i 0))) ∧ ∀ n ∈ zs, (Lit.int k n).wf = true

theorem zz12_yes (a : Option Addr) (n c : Nat) (a' : Option Addr) (n' c' : Nat) (h : n + n' ≤ 1048576) (w : World) :
    Calls Try.prog 12 #[.slice a n c, .slice a' n' c'] w fun e w' => e = .returned (.bool true) ∧ w' = w := by
  go_enter Try.func12, Try.ntmps12
  go_wp2
  go_ret
  exact ⟨rfl, rfl⟩
theorem zz12_no (a : Option Addr) (n c : Nat) (a' : Option Addr) (n' c' : Nat) (h1 : n ≤ 9223372036854775807) (h2 : n' ≤ 9223372036854775807) (h : 1048576 < n + n') (w : World) :
    Calls Try.prog 12 #[.slice a n c, .slice a' n' c'] w fun e w' => e = .returned (.bool false) ∧ w' = w := by
  by_cases ha : n ≤ 1048576
  · by_cases hb : n' ≤ 1048576
    · go_enter Try.func12, Try.ntmps12
      go_wp2
      go_ret
      exact ⟨rfl, rfl⟩
    · go_enter Try.func12, Try.ntmps12
      go_wp2
      go_ret
      exact ⟨rfl, rfl⟩
  · go_enter Try.func12, Try.ntmps12
    go_wp2
    go_ret
    exact ⟨rfl, rfl⟩

def at4 (x0 x1 x2 x3 : Int) (j : Nat) : Int := [x0, x1, x2, x3].getD j 0
theorem four_of (w : World) (b off : Nat) (x0 x1 x2 x3 : Int) (c0 : w.cell? ⟨b, off, none⟩ = some (.int .u8 x0)) (c1 : w.cell? ⟨b, off + 1, none⟩ = some (.int .u8 x1)) (c2 : w.cell? ⟨b, off + 2, none⟩ = some (.int .u8 x2)) (c3 : w.cell? ⟨b, off + 3, none⟩ = some (.int .u8 x3)) : Four w b off (at4 x0 x1 x2 x3) := by
  intro j hj
  match j, hj with
  | 0, _ => exact c0
  | 1, _ => exact c1
  | 2, _ => exact c2
  | 3, _ => exact c3
theorem cmp4 (b1 o1 n1 q1 b2 o2 n2 q2 : Nat) (x0 x1 x2 x3 y0 y1 y2 y3 : Int) (h1 : 4 ≤ n1) (h2 : 4 ≤ n2) (hx : Valid x0 x1 x2 x3) (hy : Valid y0 y1 y2 y3) (w : World)
    (c0 : w.cell? ⟨b1, o1, none⟩ = some (.int .u8 x0)) (c1 : w.cell? ⟨b1, o1 + 1, none⟩ = some (.int .u8 x1)) (c2 : w.cell? ⟨b1, o1 + 2, none⟩ = some (.int .u8 x2)) (c3 : w.cell? ⟨b1, o1 + 3, none⟩ = some (.int .u8 x3))
    (d0 : w.cell? ⟨b2, o2, none⟩ = some (.int .u8 y0)) (d1 : w.cell? ⟨b2, o2 + 1, none⟩ = some (.int .u8 y1)) (d2 : w.cell? ⟨b2, o2 + 2, none⟩ = some (.int .u8 y2)) (d3 : w.cell? ⟨b2, o2 + 3, none⟩ = some (.int .u8 y3)) :
    Calls Try.prog 15 #[.slice (some ⟨b1, o1, none⟩) n1 q1, .slice (some ⟨b2, o2, none⟩) n2 q2] w fun e w' => (∃ r : Int, e = .returned (.int .i64 r) ∧
      ((idx x0 x1 x2 x3 < idx y0 y1 y2 y3 ∧ r = -1) ∨ (idx x0 x1 x2 x3 = idx y0 y1 y2 y3 ∧ r = 0) ∨ (idx y0 y1 y2 y3 < idx x0 x1 x2 x3 ∧ r = 1))) ∧ ∃ m, w' = w.drewN m :=
  (cmp_any b1 o1 n1 q1 b2 o2 n2 q2 (at4 x0 x1 x2 x3) (at4 y0 y1 y2 y3) h1 h2 hx hy w (four_of w b1 o1 x0 x1 x2 x3 c0 c1 c2 c3) (four_of w b2 o2 y0 y1 y2 y3 d0 d1 d2 d3)).mono fun _ _ h => h

set_option maxHeartbeats 1000000 in
theorem main5 (b1 o1 n1 q1 b2 o2 n2 q2 : Nat) (cs1 cs2 : List Value) (x0 x1 x2 x3 y0 y1 y2 y3 : Int) (hn1 : 4 ≤ n1) (hn2 : 4 ≤ n2) (hm1 : n1 ≤ 524288) (hm2 : n2 ≤ 524288) (w : World)
    (hs1 : Src4 w b1 o1 n1 cs1 x0 x1 x2 x3) (hs2 : Src4 w b2 o2 n2 cs2 y0 y1 y2 y3) (hv1 : Valid x0 x1 x2 x3) (hv2 : Valid y0 y1 y2 y3) :
    Calls Try.prog 5 #[.slice (some ⟨b1, o1, none⟩) n1 q1, .slice (some ⟨b2, o2, none⟩) n2 q2] w fun e w' => e = .returned (.bool true) ∧ Below w.heap.size w w' := by
  obtain ⟨i0, hi, hz0, hz1, hz2⟩ := info_parts Try.info5
  obtain ⟨c0, c1, c2, c3⟩ := hs1.four
  obtain ⟨d0, d1, d2, d3⟩ := hs2.four
  have hneq1 := fun (w : World) => run_neq_slice_nil_any (P := Try.prog) w 27 5 (some ⟨b1, o1, none⟩) n1 q1 0 0 Try.underlying27
  have hneq2 := fun (w : World) => run_neq_slice_nil_any (P := Try.prog) w 27 5 (some ⟨b2, o2, none⟩) n2 q2 0 0 Try.underlying27
  go_enter Try.func5, Try.ntmps5
  go_wp2_with (first | (go_at_call 12; refine (zz12_yes _ _ _ _ _ _ (by omega) _).mono ?_; rintro e w' ⟨rfl, hw⟩; obtain rfl := hw.symm; clear hw) | (go_at_call_of 13 (Value.slice (some ⟨b1, o1, none⟩) n1 q1); refine (gb_yes b1 o1 n1 q1 x0 x1 x2 x3 hn1 hv1 _ c0 c1 c2 c3).mono ?_; rintro e w' ⟨rfl, hw⟩; obtain rfl := hw.symm; clear hw) | (go_at_call_of 13 (Value.slice (some ⟨b2, o2, none⟩) n2 q2); refine (gb_yes b2 o2 n2 q2 y0 y1 y2 y3 hn2 hv2 _ d0 d1 d2 d3).mono ?_; rintro e w' ⟨rfl, hw⟩; obtain rfl := hw.symm; clear hw) | (at_make; refine wpList_make_full _ rfl (.tmp 33) (.tmp 33) 27 rfl w.heap.size 5 i0 (.int .u8 0) 1 Try.underlying27 hi hz0 hz1 .i64 .i64 _ _ n1 rfl rfl rfl rfl (by rw [hz2]; omega) (by unfold maxLen; omega) (Nat.le_refl _) ?_; intro u1 own1 gr1; obtain ⟨cur, hblk, hlen⟩ := made_block own1; obtain ⟨u2, hcopy, ⟨k0, k1, k2, k3⟩, hb2⟩ := copy_run (c := q1) hs1 hn1 ((Below.refl _ _).grown gr1 (Nat.le_refl _) (by simp)) (Nat.le_refl _) hblk hlen; clear own1 gr1 hlen hblk) | (at_make; refine wpList_make_full _ rfl (.tmp 42) (.tmp 42) 27 rfl u2.heap.size 5 i0 (.int .u8 0) 1 Try.underlying27 hi hz0 hz1 .i64 .i64 _ _ n2 rfl rfl rfl rfl (by rw [hz2]; omega) (by unfold maxLen; omega) (Nat.le_refl _) ?_; intro u3 own3 gr3; obtain ⟨cur2, hblk2, hlen2⟩ := made_block own3; obtain ⟨u4, hcopy2, ⟨j0, j1, j2, j3⟩, hb4⟩ := copy_run (c := q2) (hs2.later hb2) hn2 ((Below.refl _ _).grown gr3 (Nat.le_refl _) (by simp)) (Nat.le_refl _) hblk2 hlen2; clear own3 gr3 hlen2 hblk2))
  have hz : w.heap.size < u2.heap.size := block_lt_of_cell k0
  have e0 := (hb4.cell (p := ⟨w.heap.size, 0, none⟩) hz).trans k0
  have e1 := (hb4.cell (p := ⟨w.heap.size, 1, none⟩) hz).trans k1
  have e2 := (hb4.cell (p := ⟨w.heap.size, 2, none⟩) hz).trans k2
  have e3 := (hb4.cell (p := ⟨w.heap.size, 3, none⟩) hz).trans k3
  have HB : Hid (Below w.heap.size w u4) := hb2.trans (hb4.mono (by omega))
  clear hcopy hcopy2 k0 k1 k2 k3 c0 c1 c2 c3 d0 d1 d2 d3 hs1 hs2 hb2 hb4
  obtain ⟨p0, p1⟩ := idx_bounds hv1
  obtain ⟨r0, r1⟩ := idx_bounds hv2
  refine (idx14 w.heap.size 0 n1 n1 x0 x1 x2 x3 hn1 hv1 _ (by exact e0) (by exact e1) (by exact e2) (by exact e3)).mono ?_
  rintro e u5 ⟨rfl, m1, rfl⟩
  go_wp2_with fail
  refine (idx14 u2.heap.size 0 n2 n2 y0 y1 y2 y3 hn2 hv2 _ (by exact j0) (by exact j1) (by exact j2) (by exact j3)).mono ?_
  rintro e u6 ⟨rfl, m2, rfl⟩
  go_wp2_with fail
  refine (cmp4 w.heap.size 0 n1 n1 u2.heap.size 0 n2 n2 x0 x1 x2 x3 y0 y1 y2 y3 hn1 hn2 hv1 hv2 _ (by exact e0) (by exact e1) (by exact e2) (by exact e3) (by exact j0) (by exact j1) (by exact j2) (by exact j3)).mono ?_
  rintro e u7 ⟨⟨r, rfl, hr⟩, m3, rfl⟩
  rcases hr with ⟨hc, rfl⟩ | ⟨hc, rfl⟩ | ⟨hc, rfl⟩
  · have hq : (idx x0 x1 x2 x3 == idx y0 y1 y2 y3) = false := by rw [beq_eq_false_iff_ne]; omega
    go_wp2
    go_ret
    exact ⟨rfl, below_drewN HB.out _⟩
  · have hq : (idx x0 x1 x2 x3 == idx y0 y1 y2 y3) = true := by rw [beq_iff_eq]; exact hc
    have hl : decide (idx x0 x1 x2 x3 < idx y0 y1 y2 y3) = false := decide_eq_false (by omega)
    clear hc
    go_wp2
    go_ret
    exact ⟨rfl, below_drewN HB.out _⟩
  · have hq : (idx x0 x1 x2 x3 == idx y0 y1 y2 y3) = false := by rw [beq_eq_false_iff_ne]; omega
    have hl : decide (idx x0 x1 x2 x3 < idx y0 y1 y2 y3) = false := decide_eq_false (by omega)
    go_wp2
    go_ret
    exact ⟨rfl, below_drewN HB.out _⟩

/-- The call of isGBFourByteCode answers false. -/
def NotCode (w : World) (a : Option Addr) (n c : Nat) : Prop := Calls Try.prog 13 #[.slice a n c] w fun e w' => e = .returned (.bool false) ∧ w' = w
/-- A slice of bytes that came in: it does not begin with a valid code; or it does. -/
theorem row_cases {w : World} {a : Option Addr} {n c : Nat} {zs : List Int} (h : IsRow .u8 w a n c zs) :
    n ≤ 9223372036854775807 ∧ (Hid (NotCode w a n c) ∨ ∃ b off cs x0 x1 x2 x3, a = some ⟨b, off, none⟩ ∧ 4 ≤ n ∧ Src4 w b off n cs x0 x1 x2 x3 ∧ Valid x0 x1 x2 x3) := by
  rcases h with ⟨rfl, rfl, rfl, rfl⟩ | ⟨x, rfl, hl, hm, hz, hcell, hwz⟩
  · exact ⟨by omega, .inl (gb_short none 0 0 (by omega) w)⟩
  · unfold maxLen at hm
    refine ⟨by omega, ?_⟩
    by_cases h4 : 4 ≤ n
    · obtain ⟨b, off, rfl, hs⟩ := src4_of hl hz hcell h4
      by_cases hv : Valid (zs.getD 0 0) (zs.getD 1 0) (zs.getD 2 0) (zs.getD 3 0)
      · exact .inr ⟨b, off, _, _, _, _, _, rfl, h4, hs, hv⟩
      · obtain ⟨c0, c1, c2, c3⟩ := hs.four
        exact .inl (gb_no b off n c _ _ _ _ h4 hv w c0 c1 c2 c3)
    · exact .inl (gb_short (some x) n c (by omega) w)

theorem walk (a0 : Option Addr) (len0 cap0 : Nat) (z0 : List Int) (a1 : Option Addr) (len1 cap1 : Nat) (z1 : List Int) (w : World) (w0 : IsRow .u8 w a0 len0 cap0 z0) (w1 : IsRow .u8 w a1 len1 cap1 z1) :
    Calls Try.prog 5 #[.slice a0 len0 cap0, .slice a1 len1 cap1] w fun e w' => e = .returned (.bool true) ∧ Below w.heap.size w w' := by
  obtain ⟨m0, r0⟩ := row_cases w0
  obtain ⟨m1, r1⟩ := row_cases w1
  clear w0 w1
  by_cases hsum : len0 + len1 ≤ 1048576
  · by_cases h0 : len0 ≤ 524288
    · by_cases h1 : len1 ≤ 524288
      · rcases r0 with N0 | ⟨b1, o1, cs1, x0, x1, x2, x3, rfl, hn1, hs1, hv1⟩
        · clear r1
          go_enter Try.func5, Try.ntmps5
          go_wp2_with (first | (go_at_call 12; refine (zz12_yes _ _ _ _ _ _ (by omega) _).mono ?_; rintro e w' ⟨rfl, hw⟩; obtain rfl := hw.symm; clear hw) | (go_at_call 13; refine N0.out.mono ?_; rintro e w' ⟨rfl, hw⟩; obtain rfl := hw.symm; clear hw))
          go_ret
          exact ⟨rfl, Below.refl _ _⟩
        · rcases r1 with N1 | ⟨b2, o2, cs2, y0, y1, y2, y3, rfl, hn2, hs2, hv2⟩
          · obtain ⟨c0, c1, c2, c3⟩ := hs1.four
            clear hs1
            go_enter Try.func5, Try.ntmps5
            go_wp2_with (first | (go_at_call 12; refine (zz12_yes _ _ _ _ _ _ (by omega) _).mono ?_; rintro e w' ⟨rfl, hw⟩; obtain rfl := hw.symm; clear hw) | (go_at_call_of 13 (Value.slice (some ⟨b1, o1, none⟩) len0 cap0); refine (gb_yes b1 o1 len0 cap0 x0 x1 x2 x3 hn1 hv1 _ c0 c1 c2 c3).mono ?_; rintro e w' ⟨rfl, hw⟩; obtain rfl := hw.symm; clear hw) | (go_at_call_of 13 (Value.slice a1 len1 cap1); refine N1.out.mono ?_; rintro e w' ⟨rfl, hw⟩; obtain rfl := hw.symm; clear hw))
            go_ret
            exact ⟨rfl, Below.refl _ _⟩
          · exact main5 b1 o1 len0 cap0 b2 o2 len1 cap1 cs1 cs2 x0 x1 x2 x3 y0 y1 y2 y3 hn1 hn2 h0 h1 w hs1 hs2 hv1 hv2
      · clear r0 r1
        go_enter Try.func5, Try.ntmps5
        go_wp2_with (go_at_call 12; refine (zz12_yes _ _ _ _ _ _ (by omega) _).mono ?_; rintro e w' ⟨rfl, hw⟩; obtain rfl := hw.symm; clear hw)
        go_ret
        exact ⟨rfl, Below.refl _ _⟩
    · clear r0 r1
      go_enter Try.func5, Try.ntmps5
      go_wp2_with (go_at_call 12; refine (zz12_yes _ _ _ _ _ _ (by omega) _).mono ?_; rintro e w' ⟨rfl, hw⟩; obtain rfl := hw.symm; clear hw)
      go_ret
      exact ⟨rfl, Below.refl _ _⟩
  · clear r0 r1
    go_enter Try.func5, Try.ntmps5
    go_wp2_with (go_at_call 12; refine (zz12_no _ _ _ _ _ _ (by omega) (by omega) (by omega) _).mono ?_; rintro e w' ⟨rfl, hw⟩; obtain rfl := hw.symm; clear hw)
    go_ret
    exact ⟨rfl, Below.refl _ _⟩

/-! ### THE ROW's STEP -/
set_option maxRecDepth 100000 in
theorem lifted (os : Os) (started : os.Started) (H : Type) (enc : TypeId × Value → H) :
    ReturnsInHanded {} Try.checked os 5 .any (Rows.fnFourByteIndexKeepsCodeOrderWithinItsRangeSpec.pre6 enc Try.prog Try.f5 Rows.fnFourByteIndexKeepsCodeOrderWithinItsRangeRow.domain false) (Rows.fnFourByteIndexKeepsCodeOrderWithinItsRangeSpec.post enc Try.prog Try.f5 false true false false) := by
  refine returnsInHanded_of_change (C := Try.checked) own started (by kernel_rfl) Try.func5
    (ChangeSpec.witness6 (enc := enc) (C := Try.checked) false ⟨#[], #[.slice none 0 0, .slice none 0 0], []⟩ 8 (by kernel_rfl) (by kernel_rfl) (by kernel_rfl) (by kernel_rfl)) ?_
  intro W base args ds gs before hval0 hW hcnd _
  have hval : ∀ (j : Nat) t v, Try.f5.params[j]? = some t → args[j]? = some v → Value.okWide Try.prog W .any base t v := hval0
  have hW' := hW
  obtain ⟨p, q, hA0, hV, rfl, hfz, hnd⟩ := hW
  have hA : DataW.TrodAll enc Try.prog W 0 (fun _ => true) true Try.f5.params.toList args.toList ds p := hA0
  rw [Try.params5] at hA hval
  obtain ⟨v0, vs0, d0, ds0, p0, q0, hargs, rfl, rfl, h0, r0⟩ := trodAll_cons hA
  obtain ⟨v1, vs1, d1, ds1, p1, q1, rfl, rfl, rfl, h1, r1⟩ := trodAll_cons r0
  obtain ⟨rfl, rfl, rfl⟩ := trodAll_nil r1
  obtain rfl : args = #[v0, v1] := by cases args; simp_all
  obtain ⟨rfl, rfl⟩ := trodVars_none hV
  obtain ⟨a0, len0, cap0, rfl⟩ := okWide_slice Try.underlying27 (hval 0 27 v0 rfl rfl)
  have k0 := h0
  have lt0 : ∀ x ∈ p0, x.block < W.heap.size := by obtain ⟨m, hm⟩ := k0; exact DataW.trod_lt m _ _ _ hm
  obtain ⟨z0, w0⟩ : ∃ zs, IsRow .u8 W a0 len0 cap0 zs := by
    obtain ⟨fuel, hf⟩ := h0
    rcases open_ints Try.underlying27 Try.underlying5 (by kernel_rfl) hf with ⟨hcs, _⟩ | ⟨x, l, c, zs, hcs, _, hl, hm, hz, _, hcell, hwz⟩
    · simp [Value.cells] at hcs
      obtain ⟨rfl, rfl, rfl⟩ := hcs
      exact ⟨[], .inl ⟨rfl, rfl, rfl, rfl⟩⟩
    · simp [Value.cells] at hcs
      obtain ⟨rfl, rfl, rfl⟩ := hcs
      exact ⟨zs, .inr ⟨_, rfl, hl, hm, by simpa using hz, hcell, hwz⟩⟩
  obtain ⟨a1, len1, cap1, rfl⟩ := okWide_slice Try.underlying27 (hval 1 27 v1 rfl rfl)
  have k1 := h1
  have lt1 : ∀ x ∈ p1, x.block < W.heap.size := by obtain ⟨m, hm⟩ := k1; exact DataW.trod_lt m _ _ _ hm
  obtain ⟨z1, w1⟩ : ∃ zs, IsRow .u8 W a1 len1 cap1 zs := by
    obtain ⟨fuel, hf⟩ := h1
    rcases open_ints Try.underlying27 Try.underlying5 (by kernel_rfl) hf with ⟨hcs, _⟩ | ⟨x, l, c, zs, hcs, _, hl, hm, hz, _, hcell, hwz⟩
    · simp [Value.cells] at hcs
      obtain ⟨rfl, rfl, rfl⟩ := hcs
      exact ⟨[], .inl ⟨rfl, rfl, rfl, rfl⟩⟩
    · simp [Value.cells] at hcs
      obtain ⟨rfl, rfl, rfl⟩ := hcs
      exact ⟨zs, .inr ⟨_, rfl, hl, hm, by simpa using hz, hcell, hwz⟩⟩
  clear hA0 hval0
  refine (walk a0 len0 cap0 z0 a1 len1 cap1 z1 W w0 w1).mono fun e W' ⟨he, bel⟩ => ?_
  subst he
  exact ⟨_, rfl, _, _, _, [], _, [], hW', trodAll_mk1 (shut_bool Try.underlying4 _), (trodAll_cons_mk (Below.trod laidOut (by kernel_rfl) (of_decide_eq_true (by kernel_rfl)) k0 bel lt0) (trodAll_cons_mk (Below.trod laidOut (by kernel_rfl) (of_decide_eq_true (by kernel_rfl)) k1 bel lt1) trodAll_mk0)), rfl, bel.frame _, fun h => by cases h⟩

theorem over : Rows.fnFourByteIndexKeepsCodeOrderWithinItsRangeRow.holds Try.pinned (OpenSpec.ofChange Rows.fnFourByteIndexKeepsCodeOrderWithinItsRangeSpec) :=
  OpenClaim.holds_of_wide 5 Try.f5 rfl rfl rfl rfl rfl rfl rfl ⟨rfl, rfl, rfl, rfl, rfl⟩ rfl rfl rfl rfl rfl (by kernel_rfl) Try.func5 (by kernel_rfl)
    (of_decide_eq_true (by kernel_rfl)) (by unfold Func.isWrapper; first | (rw [if_pos (by decide +kernel)]; kernel_rfl) | (rw [if_neg (by decide +kernel)]; exact ⟨rfl, rfl⟩))
    (fun os started H enc _ => lifted os started H enc)

end Go.Proofs.Qxb6608952a.fnFourByteIndexKeepsCodeOrderWithinItsRange
namespace Go.Proofs.Qxb6608952a
/-- The given statement. -/
theorem fnFourByteIndexKeepsCodeOrderWithinItsRange_proved : Rows.FnFourByteIndexKeepsCodeOrderWithinItsRangeSaid := fnFourByteIndexKeepsCodeOrderWithinItsRange.over
end Go.Proofs.Qxb6608952a
