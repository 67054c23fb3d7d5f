/-
  WindowSize.Marshal: eight bytes, big-endian, in a row of the call's own. bigEndian.AppendUint16 by a contract of its own, the loop of four rounds unrolled.
-/
import Derived.Test.Qxb6615110aSame
import Derived.Laws.OwnMore
namespace Go.Proofs.Qxb6615110a
open Go.ChangeShapes Go.WideShapes Go.ChangeAt Go.RowKit

theorem new_two (w : World) (o : Obj) (u v : Value) : ∀ j x, [u, v][j]? = some x → ((w.alloc o).alloc (.cells #[u, v] 5)).cell? ((⟨w.heap.size + 1, 0, none⟩ : Addr).add j) = some x := by
  intro j x hj
  match j, hj with
  | 0, hj => simp at hj; subst hj; simp [Addr.add, go_sem]
  | 1, hj => simp at hj; subst hj; simp [Addr.add, go_sem]
theorem one_two (k l : Int) : ∀ u ∈ [Value.int .u8 k, Value.int .u8 l], u.oneCell' = true := by
  intro u hu
  simp at hu
  rcases hu with rfl | rfl <;> rfl

set_option maxHeartbeats 400000 in
theorem app16 (base g m : Nat) (xs : List Value) (x : Int) (hx0 : 0 ≤ x) (hx1 : x ≤ 65535) (w : World) (hown : w.ownsRow base 5 1 (.slice (some ⟨g, 0, none⟩) m 8) m xs) (hbase : base ≤ w.heap.size) (hg : base ≤ g) (hm : m + 2 ≤ 8) :
    Calls Try.prog 13 #[.agg #[], .slice (some ⟨g, 0, none⟩) m 8, .int .u16 x] w fun e w' => e = .returned (.slice (some ⟨g, 0, none⟩) (m + 2) 8) ∧
      w'.ownsRow base 5 1 (.slice (some ⟨g, 0, none⟩) (m + 2) 8) (m + 2) (xs ++ [.int .u8 (x / 256), .int .u8 (x % 256)]) ∧ Below base w w' := by
  obtain ⟨i0, hi, hz0, hz1, hz2⟩ := info_parts Try.info5
  go_enter Try.func13, Try.ntmps13
  go_wp2_with (at_builtin; refine wpList_append_fits _ rfl (.tmp 7) (.tmp 13) 23 rfl base 5 i0 1 Try.underlying23 hi hz1 g m 8 xs rfl ((hown.alloc _).alloc _) ⟨w.heap.size + 1, 0, none⟩ 2 2 [.int .u8 (x / 256), .int .u8 (x % 256)] rfl rfl (new_two _ _ _ _) (one_two _ _) (by omega) ?_)
  intro w1 hown1 hgrow
  go_wp2
  go_ret
  exact ⟨rfl, hown1, (((Below.refl _ _).alloc hbase _).alloc (by simp; omega) _).grown hgrow (by simp; omega) (by simp; omega)⟩

/-- The eight bytes. -/
def wbytes (a b c d : Int) : List Int := [a / 256, a % 256, b / 256, b % 256, c / 256, c % 256, d / 256, d % 256]

set_option maxHeartbeats 800000 in
theorem win_any (a b c d : Int) (ha : 0 ≤ a ∧ a ≤ 65535) (hb : 0 ≤ b ∧ b ≤ 65535) (hc : 0 ≤ c ∧ c ≤ 65535) (hd : 0 ≤ d ∧ d ≤ 65535) (w : World) :
    Calls Try.prog 12 #[.agg #[.int .u16 a, .int .u16 b, .int .u16 c, .int .u16 d]] w fun e w' => ∃ g, e = .returned (.slice (some ⟨g, 0, none⟩) 8 8) ∧ w.heap.size ≤ g ∧ g < w'.heap.size ∧ RowIs w' g (wbytes a b c d) ∧ Below w.heap.size w w' := by
  obtain ⟨ha0, ha1⟩ := ha
  obtain ⟨hb0, hb1⟩ := hb
  obtain ⟨hc0, hc1⟩ := hc
  obtain ⟨hd0, hd1⟩ := hd
  have hmk : ∀ w, (Instr.makeSlice 23 (.int .i64 0) (.int .i64 8)).run Try.prog w = .ok (.slice (some ⟨w.heap.size, 0, none⟩) 0 8) (w.alloc (.cells #[.int .u8 0, .int .u8 0, .int .u8 0, .int .u8 0, .int .u8 0, .int .u8 0, .int .u8 0, .int .u8 0] 5)) := fun _ => by kernel_rfl
  have i0 : ∀ w, (Instr.index 36 (.agg #[.int .u16 a, .int .u16 b, .int .u16 c, .int .u16 d]) (.int .i64 0)).run Try.prog w = .ok (.int .u16 a) w := fun _ => by kernel_rfl
  have i1 : ∀ w, (Instr.index 36 (.agg #[.int .u16 a, .int .u16 b, .int .u16 c, .int .u16 d]) (.int .i64 1)).run Try.prog w = .ok (.int .u16 b) w := fun _ => by kernel_rfl
  have i2 : ∀ w, (Instr.index 36 (.agg #[.int .u16 a, .int .u16 b, .int .u16 c, .int .u16 d]) (.int .i64 2)).run Try.prog w = .ok (.int .u16 c) w := fun _ => by kernel_rfl
  have i3 : ∀ w, (Instr.index 36 (.agg #[.int .u16 a, .int .u16 b, .int .u16 c, .int .u16 d]) (.int .i64 3)).run Try.prog w = .ok (.int .u16 d) w := fun _ => by kernel_rfl
  go_enter Try.func12, Try.ntmps12
  go_wp2
  refine wp_loop_rounds 5 ?_
  rw [rounds_succ]
  go_wp2_with fail
  refine (app16 (w.heap.size + 1) (w.heap.size + 1) 0 [] a ha0 ha1 _ ?own (by simp) (by simp) (by omega)).mono ?_
  case own =>
    have h := World.ownsRow_made (base := w.heap.size + 1) (e := 5) (size := 1) (w.alloc (.cells #[.int .u16 a, .int .u16 b, .int .u16 c, .int .u16 d] 33)) #[.int .u8 0, .int .u8 0, .int .u8 0, .int .u8 0, .int .u8 0, .int .u8 0, .int .u8 0, .int .u8 0] 8 (by simp) (by decide) rfl
    rw [World.size_alloc] at h
    exact h
  rintro e u1 ⟨rfl, o1, b1⟩
  go_wp2_with fail
  rw [rounds_succ]
  go_wp2_with fail
  refine (app16 (w.heap.size + 1) (w.heap.size + 1) 2 _ b hb0 hb1 _ o1 ?_ (by simp) (by omega)).mono ?_
  · have := b1.size; simp at this; omega
  rintro e u2 ⟨rfl, o2, b2⟩
  go_wp2_with fail
  rw [rounds_succ]
  go_wp2_with fail
  refine (app16 (w.heap.size + 1) (w.heap.size + 1) 4 _ c hc0 hc1 _ o2 ?_ (by simp) (by omega)).mono ?_
  · have := b1.size; have := b2.size; simp at *; omega
  rintro e u3 ⟨rfl, o3, b3⟩
  go_wp2_with fail
  rw [rounds_succ]
  go_wp2_with fail
  refine (app16 (w.heap.size + 1) (w.heap.size + 1) 6 _ d hd0 hd1 _ o3 ?_ (by simp) (by omega)).mono ?_
  · have := b1.size; have := b2.size; have := b3.size; simp at *; omega
  rintro e u4 ⟨rfl, o4, b4⟩
  go_wp2
  rw [rounds_succ]
  go_wp2
  go_ret
  refine ⟨w.heap.size + 1, rfl, by omega, ?_, ?_, ?_⟩
  · have := b1.size; have := b2.size; have := b3.size; have := b4.size; simp at *; omega
  · intro j hj
    rw [o4.cellAt j (by simpa [wbytes] using hj)]
    simp only [wbytes, List.length_cons, List.length_nil] at hj
    match j, hj with
    | 0, _ | 1, _ | 2, _ | 3, _ | 4, _ | 5, _ | 6, _ | 7, _ => rfl
  · exact (((Below.refl _ _).alloc (by simp) _).alloc (by simp) _).trans ((((b1.trans b2).trans b3).trans b4).mono (by omega))
end Go.Proofs.Qxb6615110a
