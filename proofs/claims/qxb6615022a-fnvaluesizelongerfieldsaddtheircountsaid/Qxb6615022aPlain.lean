/-
  THE PLAIN LAW: int's multiplication wraps, and one more factor adds the other. No Go in sight.
-/
import Derived.RowKit
namespace Go.Proofs.Qxb6615022a.Plain
open Go.RowKit

theorem mulwrap (x y : Int) : wrap64 (wrap64 x * y) = wrap64 (x * y) := by
  have h : ∃ k : Int, wrap64 x = x + k * 18446744073709551616 := by
    refine ⟨-((x + 9223372036854775808) / 18446744073709551616), ?_⟩
    unfold wrap64
    omega
  obtain ⟨k, hk⟩ := h
  rw [hk, Int.add_mul, Int.mul_right_comm]
  generalize x * y = p
  generalize k * y = q
  unfold wrap64
  omega

/-- One more field adds its length. -/
theorem oneMore (x y : Int) (h1 : -9223372036854775808 ≤ y) (h2 : y ≤ 9223372036854775807) : wrap64 (wrap64 (wrap64 (x + 1) * y) - wrap64 (x * y)) = y := by
  rw [mulwrap, Int.add_mul, Int.one_mul]
  generalize x * y = p
  unfold wrap64
  omega

/-- Each field one byte longer adds their count. -/
theorem longer (x y : Int) (h1 : -9223372036854775808 ≤ x) (h2 : x ≤ 9223372036854775807) : wrap64 (wrap64 (x * wrap64 (y + 1)) - wrap64 (x * y)) = x := by
  rw [Int.mul_comm x, Int.mul_comm x]
  exact oneMore y x h1 h2
end Go.Proofs.Qxb6615022a.Plain
