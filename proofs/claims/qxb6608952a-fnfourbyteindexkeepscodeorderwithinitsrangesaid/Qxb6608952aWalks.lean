/-
  THE CALLEES OF BOTH LAWS: isGBFourByteCode, ZZfourByteIndex (fourByteIndex), compareFirstFour. They only read. 'X : Nat → Int': the bytes of a code by their places.
-/
import Derived.Test.Qxb6608952aRows
import Derived.WalkKit
import Derived.ProofKit
import Derived.OpenShut
import Derived.ShutString
import Derived.Below
import Derived.Deep.QuietTactic
import Derived.BigQuiet
import Derived.Deep.Draws
import Derived.Outline
namespace Go.Proofs.Qxb6608952a
open Go.ChangeShapes Go.WideShapes Go.ChangeAt Go.RowKit

/-- Four bytes lie in a row. -/
def Four (w : World) (b off : Nat) (X : Nat → Int) : Prop := ∀ j, j < 4 → w.cell? ⟨b, off + j, none⟩ = some (.int .u8 (X j))
theorem Four.parts {w : World} {b off : Nat} {X : Nat → Int} (h : Four w b off X) :
    w.cell? ⟨b, off, none⟩ = some (.int .u8 (X 0)) ∧ w.cell? ⟨b, off + 1, none⟩ = some (.int .u8 (X 1)) ∧ w.cell? ⟨b, off + 2, none⟩ = some (.int .u8 (X 2)) ∧ w.cell? ⟨b, off + 3, none⟩ = some (.int .u8 (X 3)) :=
  ⟨h 0 (by omega), h 1 (by omega), h 2 (by omega), h 3 (by omega)⟩

/-- A valid four-byte code. -/
structure Valid (x0 x1 x2 x3 : Int) : Prop where
  a0 : 129 ≤ x0
  b0 : x0 ≤ 254
  a1 : 48 ≤ x1
  b1 : x1 ≤ 57
  a2 : 129 ≤ x2
  b2 : x2 ≤ 254
  a3 : 48 ≤ x3
  b3 : x3 ≤ 57

/-- The code's index. -/
def idx (x0 x1 x2 x3 : Int) : Int := (((x0 - 129) * 10 + (x1 - 48)) * 126 + (x2 - 129)) * 10 + (x3 - 48)

set_option maxHeartbeats 400000 in
theorem gb_yes (b off n c : Nat) (x0 x1 x2 x3 : Int) (hn : 4 ≤ n) (hv : Valid x0 x1 x2 x3) (w : World)
    (c0 : w.cell? ⟨b, off, none⟩ = some (.int .u8 x0)) (c1 : w.cell? ⟨b, off + 1, none⟩ = some (.int .u8 x1)) (c2 : w.cell? ⟨b, off + 2, none⟩ = some (.int .u8 x2)) (c3 : w.cell? ⟨b, off + 3, none⟩ = some (.int .u8 x3)) :
    Calls Try.prog 13 #[.slice (some ⟨b, off, none⟩) n c] w fun e w' => e = .returned (.bool true) ∧ w' = w := by
  obtain ⟨p0, q0, p1, q1, p2, q2, p3, q3⟩ := hv
  have l0 : (0 : Int) < (n : Int) := by omega
  have l1 : (1 : Int) < (n : Int) := by omega
  have l2 : (2 : Int) < (n : Int) := by omega
  have l3 : (3 : Int) < (n : Int) := by omega
  go_enter Try.func13, Try.ntmps13
  go_wp2
  go_ret
  exact ⟨rfl, rfl⟩

theorem gb_short (a : Option Addr) (n c : Nat) (hn : n < 4) (w : World) :
    Calls Try.prog 13 #[.slice a n c] w fun e w' => e = .returned (.bool false) ∧ w' = w := by
  go_enter Try.func13, Try.ntmps13
  go_wp2
  go_ret
  exact ⟨rfl, rfl⟩

set_option maxHeartbeats 800000 in
theorem gb_no (b off n c : Nat) (x0 x1 x2 x3 : Int) (hn : 4 ≤ n) (hv : ¬ Valid x0 x1 x2 x3) (w : World)
    (c0 : w.cell? ⟨b, off, none⟩ = some (.int .u8 x0)) (c1 : w.cell? ⟨b, off + 1, none⟩ = some (.int .u8 x1)) (c2 : w.cell? ⟨b, off + 2, none⟩ = some (.int .u8 x2)) (c3 : w.cell? ⟨b, off + 3, none⟩ = some (.int .u8 x3)) :
    Calls Try.prog 13 #[.slice (some ⟨b, off, none⟩) n c] w fun e w' => e = .returned (.bool false) ∧ w' = w := by
  have l0 : (0 : Int) < (n : Int) := by omega
  have l1 : (1 : Int) < (n : Int) := by omega
  have l2 : (2 : Int) < (n : Int) := by omega
  have l3 : (3 : Int) < (n : Int) := by omega
  by_cases h0 : 129 ≤ x0 ∧ x0 ≤ 254
  · obtain ⟨p0, q0⟩ := h0
    by_cases h1 : 48 ≤ x1 ∧ x1 ≤ 57
    · obtain ⟨p1, q1⟩ := h1
      by_cases h2 : 129 ≤ x2 ∧ x2 ≤ 254
      · obtain ⟨p2, q2⟩ := h2
        have h3 : x3 < 48 ∨ 57 < x3 := by
          by_cases p3 : 48 ≤ x3
          · by_cases q3 : x3 ≤ 57
            · exact absurd ⟨p0, q0, p1, q1, p2, q2, p3, q3⟩ hv
            · right; omega
          · left; omega
        clear hv
        rcases h3 with h3 | h3
        · go_enter Try.func13, Try.ntmps13
          go_wp2
          go_ret
          exact ⟨rfl, rfl⟩
        · have : 48 ≤ x3 := by omega
          have hq : decide (x3 ≤ 57) = false := decide_eq_false (by omega)
          go_enter Try.func13, Try.ntmps13
          go_wp2
          go_ret
          exact ⟨rfl, rfl⟩
      · clear hv
        have h2' : x2 < 129 ∨ 254 < x2 := by omega
        clear h2
        rcases h2' with h2 | h2
        · go_enter Try.func13, Try.ntmps13
          go_wp2
          go_ret
          exact ⟨rfl, rfl⟩
        · have : 129 ≤ x2 := by omega
          go_enter Try.func13, Try.ntmps13
          go_wp2
          go_ret
          exact ⟨rfl, rfl⟩
    · clear hv
      have h1' : x1 < 48 ∨ 57 < x1 := by omega
      clear h1
      rcases h1' with h1 | h1
      · go_enter Try.func13, Try.ntmps13
        go_wp2
        go_ret
        exact ⟨rfl, rfl⟩
      · have : 48 ≤ x1 := by omega
        go_enter Try.func13, Try.ntmps13
        go_wp2
        go_ret
        exact ⟨rfl, rfl⟩
  · clear hv
    have h0' : x0 < 129 ∨ 254 < x0 := by omega
    clear h0
    rcases h0' with h0 | h0
    · go_enter Try.func13, Try.ntmps13
      go_wp2
      go_ret
      exact ⟨rfl, rfl⟩
    · have : 129 ≤ x0 := by omega
      go_enter Try.func13, Try.ntmps13
      go_wp2
      go_ret
      exact ⟨rfl, rfl⟩

set_option maxHeartbeats 400000 in
theorem idx21 (b off n c : Nat) (x0 x1 x2 x3 : Int) (hn : 4 ≤ n) (hv : Valid x0 x1 x2 x3) (w : World)
    (c0 : w.cell? ⟨b, off, none⟩ = some (.int .u8 x0)) (c1 : w.cell? ⟨b, off + 1, none⟩ = some (.int .u8 x1)) (c2 : w.cell? ⟨b, off + 2, none⟩ = some (.int .u8 x2)) (c3 : w.cell? ⟨b, off + 3, none⟩ = some (.int .u8 x3)) :
    Calls Try.prog 21 #[.slice (some ⟨b, off, none⟩) n c] w fun e w' => e = .returned (.int .i64 (idx x0 x1 x2 x3)) ∧ ∃ m, w' = w.drewN m := by
  obtain ⟨p0, q0, p1, q1, p2, q2, p3, q3⟩ := hv
  have l0 : (0 : Int) < (n : Int) := by omega
  have l1 : (1 : Int) < (n : Int) := by omega
  have l2 : (2 : Int) < (n : Int) := by omega
  have l3 : (3 : Int) < (n : Int) := by omega
  go_enter Try.func21, Try.ntmps21
  go_wp2
  go_quiet (fail)
  go_wp2
  go_ret
  exact ⟨rfl, nq, rfl⟩

/-- ZZfourByteIndex. -/
theorem idx14 (b off n c : Nat) (x0 x1 x2 x3 : Int) (hn : 4 ≤ n) (hv : Valid x0 x1 x2 x3) (w : World)
    (c0 : w.cell? ⟨b, off, none⟩ = some (.int .u8 x0)) (c1 : w.cell? ⟨b, off + 1, none⟩ = some (.int .u8 x1)) (c2 : w.cell? ⟨b, off + 2, none⟩ = some (.int .u8 x2)) (c3 : w.cell? ⟨b, off + 3, none⟩ = some (.int .u8 x3)) :
    Calls Try.prog 14 #[.slice (some ⟨b, off, none⟩) n c] w fun e w' => e = .returned (.int .i64 (idx x0 x1 x2 x3)) ∧ ∃ m, w' = w.drewN m := by
  go_enter Try.func14, Try.ntmps14
  go_wp2_with fail
  refine (idx21 b off n c x0 x1 x2 x3 hn hv _ c0 c1 c2 c3).mono ?_
  rintro e w' ⟨rfl, m, rfl⟩
  go_wp2
  go_ret
  exact ⟨rfl, m, rfl⟩

/-- THE PLAIN LAW: the index orders codes as their bytes do. -/
theorem idx_lt {X Y : Nat → Int} (hx : Valid (X 0) (X 1) (X 2) (X 3)) (hy : Valid (Y 0) (Y 1) (Y 2) (Y 3)) (k : Nat) (hk : k < 4) (he : ∀ j, j < k → X j = Y j) (h : X k < Y k) : idx (X 0) (X 1) (X 2) (X 3) < idx (Y 0) (Y 1) (Y 2) (Y 3) := by
  obtain ⟨p0, q0, p1, q1, p2, q2, p3, q3⟩ := hx
  obtain ⟨r0, s0, r1, s1, r2, s2, r3, s3⟩ := hy
  unfold idx
  match k, hk with
  | 0, _ => omega
  | 1, _ => have := he 0 (by omega); omega
  | 2, _ => have := he 0 (by omega); have := he 1 (by omega); omega
  | 3, _ => have := he 0 (by omega); have := he 1 (by omega); have := he 2 (by omega); omega
theorem idx_bounds {x0 x1 x2 x3 : Int} (hx : Valid x0 x1 x2 x3) : 0 ≤ idx x0 x1 x2 x3 ∧ idx x0 x1 x2 x3 < 1587600 := by
  obtain ⟨p0, q0, p1, q1, p2, q2, p3, q3⟩ := hx
  unfold idx
  omega

theorem draws3 (w : World) (a b c : Nat) : ∃ m, ((w.drewN a).drewN b).drewN c = w.drewN m := ⟨a + b + c, by simp⟩
set_option maxHeartbeats 800000 in
theorem cmp_any (b1 o1 n1 c1 b2 o2 n2 c2 : Nat) (X Y : Nat → Int) (h1 : 4 ≤ n1) (h2 : 4 ≤ n2) (hx : Valid (X 0) (X 1) (X 2) (X 3)) (hy : Valid (Y 0) (Y 1) (Y 2) (Y 3)) (w : World) (hX : Four w b1 o1 X) (hY : Four w b2 o2 Y) :
    Calls Try.prog 15 #[.slice (some ⟨b1, o1, none⟩) n1 c1, .slice (some ⟨b2, o2, none⟩) n2 c2] w fun e w' => (∃ r : Int, e = .returned (.int .i64 r) ∧
      ((idx (X 0) (X 1) (X 2) (X 3) < idx (Y 0) (Y 1) (Y 2) (Y 3) ∧ r = -1) ∨ (idx (X 0) (X 1) (X 2) (X 3) = idx (Y 0) (Y 1) (Y 2) (Y 3) ∧ r = 0) ∨ (idx (Y 0) (Y 1) (Y 2) (Y 3) < idx (X 0) (X 1) (X 2) (X 3) ∧ r = 1))) ∧ ∃ m, w' = w.drewN m := by
  have HX : Hid (Valid (X 0) (X 1) (X 2) (X 3)) := hx
  have HY : Hid (Valid (Y 0) (Y 1) (Y 2) (Y 3)) := hy
  clear hx hy
  go_enter Try.func15, Try.ntmps15
  go_wp2
  go_loopw [5] (fun i wr => ∃ k : Nat, k ≤ 4 ∧ i = .int .i64 k ∧ Hid (∀ j, j < k → X j = Y j) ∧ ∃ m, wr = w.drewN m) (fun i _ => 4 - (intOf i).toNat)
  case atStart => exact ⟨0, by omega, rfl, fun j hj => by omega, 0, rfl⟩
  case round =>
    obtain ⟨k, hk, rfl, he, m, rfl⟩ := hrel
    by_cases hlt : k < 4
    · have i0 : (0 : Int) ≤ (k : Int) := by omega
      have i1 : (k : Int) < (n1 : Int) := by omega
      have i2 : (k : Int) < (n2 : Int) := by omega
      have cA := hX k hlt
      have cB := hY k hlt
      obtain ⟨x, hxk⟩ : ∃ x, x = X k := ⟨_, rfl⟩
      obtain ⟨y, hyk⟩ : ∃ y, y = Y k := ⟨_, rfl⟩
      rw [← hxk] at cA
      rw [← hyk] at cB
      by_cases hl : x < y
      · have R : Hid (idx (X 0) (X 1) (X 2) (X 3) < idx (Y 0) (Y 1) (Y 2) (Y 3)) := idx_lt HX.out HY.out k hlt he.out (by rw [← hxk, ← hyk]; exact hl)
        clear hxk hyk hX hY
        go_wp2
        go_quiet (fail)
        go_wp2
        go_ret
        exact ⟨⟨-1, rfl, .inl ⟨R.out, rfl⟩⟩, m + nq, by simp⟩
      · by_cases hg : y < x
        · have R : Hid (idx (Y 0) (Y 1) (Y 2) (Y 3) < idx (X 0) (X 1) (X 2) (X 3)) := idx_lt HY.out HX.out k hlt (fun j hj => (he.out j hj).symm) (by rw [← hxk, ← hyk]; exact hg)
          have hd : decide (x < y) = false := decide_eq_false hl
          clear hxk hyk hX hY
          go_wp2
          go_quiet (fail)
          go_wp2
          go_quiet (fail)
          go_wp2
          go_ret
          exact ⟨⟨1, rfl, .inr (.inr ⟨R.out, rfl⟩)⟩, draws3 _ _ _ _⟩
        · have hq : x = y := by omega
          have R : Hid (∀ j, j < k + 1 → X j = Y j) := fun j hj => by
            by_cases e : j = k
            · rw [e, ← hxk, ← hyk]; exact hq
            · exact he.out j (by omega)
          clear hxk hyk hX hY hl hg
          subst hq
          go_wp2
          go_quiet (fail)
          go_wp2
          go_quiet (fail)
          go_wp2
          go_roundw
          case rel => exact ⟨k + 1, by omega, by go_num, R, _, rfl⟩
          case measure => simp [intOf]; omega
    · obtain rfl : k = 4 := by omega
      have R : Hid (idx (X 0) (X 1) (X 2) (X 3) = idx (Y 0) (Y 1) (Y 2) (Y 3)) := by
        unfold Hid
        rw [he.out 0 (by omega), he.out 1 (by omega), he.out 2 (by omega), he.out 3 (by omega)]
      clear he
      go_wp2
      go_ret
      exact ⟨⟨0, rfl, .inr (.inl ⟨R.out, rfl⟩)⟩, m, rfl⟩
end Go.Proofs.Qxb6608952a
