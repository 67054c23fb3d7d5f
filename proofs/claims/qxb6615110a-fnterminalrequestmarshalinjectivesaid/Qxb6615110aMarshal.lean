/-
  WHAT THE LAWS OF THIS SEAT SHARE: PromptText.Marshal's contract (one byte, then the text's bytes, in a row of the call's own), and a law for an append whose run is known.
-/
import Derived.Test.Qxb6615110aRows
import Derived.WalkKit
import Derived.ProofKit
import Derived.OpenShut
import Derived.ShutString
import Derived.Below
import Derived.Deep.AppendSrc
import Derived.Outline
namespace Go.Proofs.Qxb6615110a
open Go.ChangeShapes Go.WideShapes Go.ChangeAt Go.RowKit

theorem Try.info5 : (Try.prog.info? 5).map (fun i => (i.zero, i.size, i.bytes)) = some (some (.int .u8 0), 1, 1) := by kernel_rfl

/-- An append (unguarded) whose run is known. -/
theorem wpList_append_run {P : Program} (w : World) {ops : Array Oper} {rest : List Oper} {o : Oper} {a : Act} {Q : Exit → Act → World → Prop}
    (hg : o.guard = none) (s x : Operand) (t tx : TypeId) (hop : o.op = Op.call { callee := Callee.builtin Builtin.append, args := #[s, x], argTypes := #[t, tx] })
    (v vx v' : Value) (hs : a.eval s = v) (hx : a.eval x = vx) (w' : World) (hrun : (Builtin.append_ #[t, tx] o.type #[v, vx]).run P w = .ok v' w')
    (hK : wpList P ops Q rest (a.put o.dst v') w') : wpList P ops Q (o :: rest) a w := by
  refine wpList_plain hg fun K hK' => ?_
  unfold Oper.wp
  simp [execOp, hop, resolve, invoke, builtin, hs, hx, hrun, Result.andThen]
  exact hK' _ _ hK

/-- THE BYTES THAT Marshal GIVES. -/
def pbytes (k : Int) (s : ByteArray) : List Int := k :: s.data.toList.map fun b => (b.toNat : Int)

/-- A row of bytes in memory: 'n' cells from the head of block g on hold the numbers L. -/
def RowIs (w : World) (g : Nat) (L : List Int) : Prop := ∀ j, j < L.length → w.cell? ⟨g, j, none⟩ = some (.int .u8 (L.getD j 0))

theorem pbytes_cells (k : Int) (s : ByteArray) : (pbytes k s).map (Value.int .u8) = .int .u8 k :: byteCells s := by
  simp [pbytes, byteCells]

theorem pbytes_length (k : Int) (s : ByteArray) : (pbytes k s).length = 1 + s.size := by
  have := byteCells_length s
  have h := congrArg List.length (pbytes_cells k s)
  simp at h
  omega

theorem row_of (k : Int) (s : ByteArray) (z : Array Value) (j : Nat) (hj : j < (pbytes k s).length) :
    (#[Value.int .u8 k] ++ ((Array.map (fun b => Value.int IntKind.u8 (b.toNat : Int)) s.data).extract 0 s.size ++ z))[j]? = some (.int .u8 ((pbytes k s).getD j 0)) := by
  rw [pbytes_length] at hj
  have hsz : s.data.size = s.size := rfl
  match j with
  | 0 =>
    rw [Array.getElem?_append_left (by simp)]
    simp [pbytes]
  | j + 1 =>
    have hj2 : j < s.data.size := by omega
    rw [Array.getElem?_append_right (by simp)]
    simp only [List.size_toArray, List.length_singleton, Nat.add_sub_cancel]
    rw [Array.getElem?_append_left (by simp; omega)]
    rw [Array.getElem?_extract, if_pos (by simp; omega), Nat.zero_add, Array.getElem?_map, Array.getElem?_eq_getElem hj2]
    simp only [pbytes, Option.map_some, List.getD_eq_getElem?_getD, List.getElem?_cons_succ, List.getElem?_map, Array.getElem?_toList]
    rw [Array.getElem?_eq_getElem hj2]
    rfl

theorem bytes5 : Try.t5.bytes = 1 := by kernel_rfl
theorem room (n : Nat) (h : n ≤ 1048576) (h0 : ¬ n = 0) : ¬ 281474976710656 < Builtin.nextslicecap (1 + n) 1 * Try.t5.bytes := by
  rw [bytes5]
  have := nextslicecap_le (need := 1 + n) (old := 1) (by omega)
  omega

set_option maxHeartbeats 400000 in
theorem marshal_any (k : Int) (s : ByteArray) (hs : s.size ≤ 1048576) (w : World) :
    Calls Try.prog 7 #[.agg #[.int .u8 k, .string s]] w fun e w' => ∃ g cap, e = .returned (.slice (some ⟨g, 0, none⟩) (1 + s.size) cap) ∧ w.heap.size ≤ g ∧ g < w'.heap.size ∧ RowIs w' g (pbytes k s) ∧ Below w.heap.size w w' := by
  by_cases h0 : s.size = 0
  · go_enter Try.func7, Try.ntmps7
    go_wp2
    go_ret
    refine ⟨w.heap.size + 1, 1, by rw [h0]; rfl, by omega, by simp, ?_, ((Below.refl _ _).alloc (by simp) _).alloc (by simp) _⟩
    intro j hj
    rw [pbytes_length] at hj
    obtain rfl : j = 0 := by omega
    simp [go_sem, pbytes]
  · have hr := room s.size hs h0
    go_enter Try.func7, Try.ntmps7
    go_wp2_with fail
    go_ret
    refine ⟨_, _, rfl, by omega, by simp, ?_, (((((Below.refl _ _).alloc (by simp) _).alloc (by simp) _).alloc (by simp; omega) _).drew)⟩
    intro j hj
    have := row_of k s (Builtin.zeroCells #[Value.int IntKind.u8 0]
                ((Question.appendCap (1 + s.size) 1 5).cut (w.tape w.drawn (Question.appendCap (1 + s.size) 1 5)) -
                  (1 + s.size))) j hj
    rw [← this]
    simp [go_sem]
end Go.Proofs.Qxb6615110a
