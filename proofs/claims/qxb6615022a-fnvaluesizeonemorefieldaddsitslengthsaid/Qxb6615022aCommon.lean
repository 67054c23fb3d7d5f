/-
  WHAT BOTH LAWS OF THIS SEAT SHARE: a parameter of type [5]float64 opened; Workload.ValueSize's contract; the cells of the call's own five blocks in every later world.
-/
import Derived.Test.Qxb6615022aRows
import Derived.WalkKit
import Derived.ProofKit
import Derived.OpenShut
import Derived.ShutString
import Derived.ChangeOld
import Derived.Below
import Derived.Lib.QuietBelow
namespace Go.Proofs.Qxb6615022a
open Go.ChangeShapes Go.WideShapes Go.ChangeAt Go.RowKit
/-- What a cell of float64 holds. -/
theorem float_cell {P : Program} {w : World} {r : Reach} {base : Nat} {t : TypeId} {k : FloatKind} {v : Value} (ht : P.underlying t = some (.float k)) (h : Cell.okWide P w r base t v) : ∃ b, v = .float k b := by
  cases v <;> simp [Cell.okWide, Cell.ok, ht] at h
  exact ⟨_, by rw [h.1]⟩
/-- A parameter of type [5]float64. -/
theorem okWide_floats {P : Program} {w : World} {r : Reach} {base : Nat} {t e : TypeId} {k : FloatKind} {v : Value} (ht : P.underlying t = some (.array 5 e)) (he : P.underlying e = some (.float k)) (hc : P.cellsOf t = 5) (hts : P.cellTypes P.depth t = some [e, e, e, e, e])
    (h : Value.okWide P w r base t v) : ∃ b0 b1 b2 b3 b4, v = .agg #[.float k b0, .float k b1, .float k b2, .float k b3, .float k b4] := by
  unfold Value.okWide at h
  rw [ht] at h
  obtain ⟨cs, rfl, h2, ts, h3, _, h5⟩ := h
  rw [hts] at h3
  obtain rfl := Option.some.inj h3
  rw [hc] at h2
  obtain ⟨l⟩ := cs
  match l, h2, h5 with
  | [c0, c1, c2, c3, c4], _, h5 =>
    have g : ∀ i v, i < 5 → #[c0, c1, c2, c3, c4][i]? = some v → ∃ b, v = .float k b := by
      intro i v hi hv
      obtain ⟨u, hu, hok⟩ := h5 i v hv
      have : u = e := by
        match i, hi with
        | 0, _ | 1, _ | 2, _ | 3, _ | 4, _ => simp at hu; exact hu.symm
      subst this
      exact float_cell he hok
    obtain ⟨b0, rfl⟩ := g 0 c0 (by omega) rfl
    obtain ⟨b1, rfl⟩ := g 1 c1 (by omega) rfl
    obtain ⟨b2, rfl⟩ := g 2 c2 (by omega) rfl
    obtain ⟨b3, rfl⟩ := g 3 c3 (by omega) rfl
    obtain ⟨b4, rfl⟩ := g 4 c4 (by omega) rfl
    exact ⟨b0, b1, b2, b3, b4, rfl⟩
theorem run_store_float {P : Program} {w : World} {a : Addr} {m : Mode} (k : FloatKind) (b : Nat) : (store a (.float k b) m).run P w = stored P w a (.float k b) m := run_store P w a _ m rfl
/-- Workload.ValueSize: the product of the two fields, as int wraps it; it boxes its receiver, and touches nothing that was there. -/
theorem vs_any (x0 x1 c0 c1 c2 c3 c4 x3 : Value) (a b : Int) (x6 : Value) (w : World) :
    Calls Try.prog 6 #[.agg #[x0, x1, c0, c1, c2, c3, c4, x3, .int .i64 a, .int .i64 b, x6]] w fun e w' => e = .returned (.int .i64 (wrap64 (a * b))) ∧ Below w.heap.size w w' := by
  go_enter Try.func6, Try.ntmps6
  go_wp2
  go_ret
  exact ⟨rfl, (Below.refl _ _).alloc (Nat.le_refl _) _⟩

theorem wrapEq (x : Int) : IntKind.i64.wrap x = wrap64 x := by rw [IntKind.wrap_i64]; unfold wrap64; rfl
theorem cells23 : Try.prog.cellsOf 23 = 5 := by kernel_rfl
theorem types23 : Try.prog.cellTypes Try.prog.depth 23 = some [22, 22, 22, 22, 22] := by kernel_rfl
/-! The third, fourth and fifth of five new blocks, in every world that a region of reads and calls may come to. -/
open Go.Sort in
theorem c3 (w : World) (o1 o2 : Obj) (cs : Array Value) (t : TypeId) (o4 o5 : Obj) (d : Nat) (os : Array Obj) (j : Nat) :
    (grow (redrawn (((((w.alloc o1).alloc o2).alloc (.cells cs t)).alloc o4).alloc o5) d) os).cell? ⟨w.heap.size + 1 + 1, j, none⟩ = cs[j]? := by
  rw [(below_regrown _ d os).cell (by simp)]
  simp [go_sem]
open Go.Sort in
theorem c4 (w : World) (o1 o2 o3 : Obj) (cs : Array Value) (t : TypeId) (o5 : Obj) (d : Nat) (os : Array Obj) (j : Nat) :
    (grow (redrawn (((((w.alloc o1).alloc o2).alloc o3).alloc (.cells cs t)).alloc o5) d) os).cell? ⟨w.heap.size + 1 + 1 + 1, j, none⟩ = cs[j]? := by
  rw [(below_regrown _ d os).cell (by simp)]
  simp [go_sem]
open Go.Sort in
theorem c5 (w : World) (o1 o2 o3 o4 : Obj) (cs : Array Value) (t : TypeId) (d : Nat) (os : Array Obj) (j : Nat) :
    (grow (redrawn (((((w.alloc o1).alloc o2).alloc o3).alloc o4).alloc (.cells cs t)) d) os).cell? ⟨w.heap.size + 1 + 1 + 1 + 1, j, none⟩ = cs[j]? := by
  rw [(below_regrown _ d os).cell (by simp)]
  simp [go_sem]
end Go.Proofs.Qxb6615022a
