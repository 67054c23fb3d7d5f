/-
  nextGBFourByteCode: the next code, or the mark that there is none. And what the two laws share on 'make' and 'copy'.
-/
import Derived.Test.Qxb6608952aWalks
import Derived.RegionTactic
import Derived.Laws.CopyOwn
import Derived.WalkSpells
import Derived.WalkSmall
namespace Go.Proofs.Qxb6608952a
open Go.ChangeShapes Go.WideShapes Go.ChangeAt Go.RowKit

set_option maxHeartbeats 400000 in
theorem next_a (b off n c : Nat) (x0 x1 x2 x3 : Int) (hn : 4 ≤ n) (h : 0 ≤ x3) (h3 : x3 < 57) (w : World)
    (c0 : w.cell? ⟨b, off, none⟩ = some (.int .u8 x0)) (c1 : w.cell? ⟨b, off + 1, none⟩ = some (.int .u8 x1)) (c2 : w.cell? ⟨b, off + 2, none⟩ = some (.int .u8 x2)) (c3 : w.cell? ⟨b, off + 3, none⟩ = some (.int .u8 x3)) :
    Calls Try.prog 17 #[.slice (some ⟨b, off, none⟩) n c] w fun e w' => e = .returned (.tuple #[.slice (some ⟨w.heap.size, 0, none⟩) 4 4, .bool false]) ∧ w' = (w.alloc (.cells #[.int .u8 x0, .int .u8 x1, .int .u8 x2, .int .u8 (x3 + 1)] 5)).drew := by
  have l0 : (0 : Int) < (n : Int) := by omega
  have l1 : (1 : Int) < (n : Int) := by omega
  have l2 : (2 : Int) < (n : Int) := by omega
  have l3 : (3 : Int) < (n : Int) := by omega
  go_enter Try.func17, Try.ntmps17
  go_wp2
  go_region
  all_goals
    go_wp2
    refine wp_loop_rounds 5 ?_
    rw [rounds_succ]
    go_wp2
    go_ret2
    exact ⟨rfl, rfl⟩
set_option maxHeartbeats 400000 in
theorem next_b (b off n c : Nat) (x0 x1 x2 : Int) (hn : 4 ≤ n) (h : 0 ≤ x2) (h2 : x2 < 254) (w : World)
    (c0 : w.cell? ⟨b, off, none⟩ = some (.int .u8 x0)) (c1 : w.cell? ⟨b, off + 1, none⟩ = some (.int .u8 x1)) (c2 : w.cell? ⟨b, off + 2, none⟩ = some (.int .u8 x2)) (c3 : w.cell? ⟨b, off + 3, none⟩ = some (.int .u8 57)) :
    Calls Try.prog 17 #[.slice (some ⟨b, off, none⟩) n c] w fun e w' => e = .returned (.tuple #[.slice (some ⟨w.heap.size, 0, none⟩) 4 4, .bool false]) ∧ w' = (w.alloc (.cells #[.int .u8 x0, .int .u8 x1, .int .u8 (x2 + 1), .int .u8 48] 5)).drew := by
  have l0 : (0 : Int) < (n : Int) := by omega
  have l1 : (1 : Int) < (n : Int) := by omega
  have l2 : (2 : Int) < (n : Int) := by omega
  have l3 : (3 : Int) < (n : Int) := by omega
  go_enter Try.func17, Try.ntmps17
  go_wp2
  go_region
  all_goals
    go_wp2
    refine wp_loop_rounds 5 ?_
    rw [rounds_succ]
    go_wp2
    rw [rounds_succ]
    go_wp2
    go_ret2
    exact ⟨rfl, rfl⟩
set_option maxHeartbeats 400000 in
theorem next_c (b off n c : Nat) (x0 x1 : Int) (hn : 4 ≤ n) (h : 0 ≤ x1) (h1 : x1 < 57) (w : World)
    (c0 : w.cell? ⟨b, off, none⟩ = some (.int .u8 x0)) (c1 : w.cell? ⟨b, off + 1, none⟩ = some (.int .u8 x1)) (c2 : w.cell? ⟨b, off + 2, none⟩ = some (.int .u8 254)) (c3 : w.cell? ⟨b, off + 3, none⟩ = some (.int .u8 57)) :
    Calls Try.prog 17 #[.slice (some ⟨b, off, none⟩) n c] w fun e w' => e = .returned (.tuple #[.slice (some ⟨w.heap.size, 0, none⟩) 4 4, .bool false]) ∧ w' = (w.alloc (.cells #[.int .u8 x0, .int .u8 (x1 + 1), .int .u8 129, .int .u8 48] 5)).drew := by
  have l0 : (0 : Int) < (n : Int) := by omega
  have l1 : (1 : Int) < (n : Int) := by omega
  have l2 : (2 : Int) < (n : Int) := by omega
  have l3 : (3 : Int) < (n : Int) := by omega
  go_enter Try.func17, Try.ntmps17
  go_wp2
  go_region
  all_goals
    go_wp2
    refine wp_loop_rounds 5 ?_
    rw [rounds_succ]
    go_wp2
    rw [rounds_succ]
    go_wp2
    rw [rounds_succ]
    go_wp2
    go_ret2
    exact ⟨rfl, rfl⟩
set_option maxHeartbeats 400000 in
theorem next_d (b off n c : Nat) (x0 : Int) (hn : 4 ≤ n) (h : 0 ≤ x0) (h0 : x0 < 254) (w : World)
    (c0 : w.cell? ⟨b, off, none⟩ = some (.int .u8 x0)) (c1 : w.cell? ⟨b, off + 1, none⟩ = some (.int .u8 57)) (c2 : w.cell? ⟨b, off + 2, none⟩ = some (.int .u8 254)) (c3 : w.cell? ⟨b, off + 3, none⟩ = some (.int .u8 57)) :
    Calls Try.prog 17 #[.slice (some ⟨b, off, none⟩) n c] w fun e w' => e = .returned (.tuple #[.slice (some ⟨w.heap.size, 0, none⟩) 4 4, .bool false]) ∧ w' = (w.alloc (.cells #[.int .u8 (x0 + 1), .int .u8 48, .int .u8 129, .int .u8 48] 5)).drew := by
  have l0 : (0 : Int) < (n : Int) := by omega
  have l1 : (1 : Int) < (n : Int) := by omega
  have l2 : (2 : Int) < (n : Int) := by omega
  have l3 : (3 : Int) < (n : Int) := by omega
  go_enter Try.func17, Try.ntmps17
  go_wp2
  go_region
  all_goals
    go_wp2
    refine wp_loop_rounds 5 ?_
    rw [rounds_succ]
    go_wp2
    rw [rounds_succ]
    go_wp2
    rw [rounds_succ]
    go_wp2
    rw [rounds_succ]
    go_wp2
    go_ret2
    exact ⟨rfl, rfl⟩
set_option maxHeartbeats 400000 in
theorem next_e (b off n c : Nat) (hn : 4 ≤ n) (w : World)
    (c0 : w.cell? ⟨b, off, none⟩ = some (.int .u8 254)) (c1 : w.cell? ⟨b, off + 1, none⟩ = some (.int .u8 57)) (c2 : w.cell? ⟨b, off + 2, none⟩ = some (.int .u8 254)) (c3 : w.cell? ⟨b, off + 3, none⟩ = some (.int .u8 57)) :
    Calls Try.prog 17 #[.slice (some ⟨b, off, none⟩) n c] w fun e w' => e = .returned (.tuple #[.slice (some ⟨w.heap.size, 0, none⟩) 4 4, .bool true]) ∧ w' = (w.alloc (.cells #[.int .u8 129, .int .u8 48, .int .u8 129, .int .u8 48] 5)).drew := by
  have l0 : (0 : Int) < (n : Int) := by omega
  have l1 : (1 : Int) < (n : Int) := by omega
  have l2 : (2 : Int) < (n : Int) := by omega
  have l3 : (3 : Int) < (n : Int) := by omega
  go_enter Try.func17, Try.ntmps17
  go_wp2
  go_region
  all_goals
    go_wp2
    refine wp_loop_rounds 5 ?_
    rw [rounds_succ]
    go_wp2
    rw [rounds_succ]
    go_wp2
    rw [rounds_succ]
    go_wp2
    rw [rounds_succ]
    go_wp2
    rw [rounds_succ]
    go_wp2
    go_ret2
    exact ⟨rfl, rfl⟩

/-- nextGBFourByteCode at a valid code: a valid code whose index is one greater; or none, and then the index is the greatest. -/
theorem next_any (b off n c : Nat) (x0 x1 x2 x3 : Int) (hn : 4 ≤ n) (hv : Valid x0 x1 x2 x3) (w : World)
    (c0 : w.cell? ⟨b, off, none⟩ = some (.int .u8 x0)) (c1 : w.cell? ⟨b, off + 1, none⟩ = some (.int .u8 x1)) (c2 : w.cell? ⟨b, off + 2, none⟩ = some (.int .u8 x2)) (c3 : w.cell? ⟨b, off + 3, none⟩ = some (.int .u8 x3)) :
    Calls Try.prog 17 #[.slice (some ⟨b, off, none⟩) n c] w fun e w' => ∃ y0 y1 y2 y3 last, e = .returned (.tuple #[.slice (some ⟨w.heap.size, 0, none⟩) 4 4, .bool last]) ∧ w' = (w.alloc (.cells #[.int .u8 y0, .int .u8 y1, .int .u8 y2, .int .u8 y3] 5)).drew ∧
      ((last = false ∧ Valid y0 y1 y2 y3 ∧ idx y0 y1 y2 y3 = idx x0 x1 x2 x3 + 1) ∨ (last = true ∧ idx x0 x1 x2 x3 = 1587599)) := by
  obtain ⟨p0, q0, p1, q1, p2, q2, p3, q3⟩ := hv
  by_cases h3 : x3 < 57
  · refine (next_a b off n c x0 x1 x2 x3 hn (by omega) h3 w c0 c1 c2 c3).mono fun e w' ⟨he, hw⟩ => ⟨_, _, _, _, _, he, hw, .inl ⟨rfl, ⟨by omega, by omega, by omega, by omega, by omega, by omega, by omega, by omega⟩, ?_⟩⟩
    unfold idx; omega
  obtain rfl : x3 = 57 := by omega
  by_cases h2 : x2 < 254
  · refine (next_b b off n c x0 x1 x2 hn (by omega) h2 w c0 c1 c2 c3).mono fun e w' ⟨he, hw⟩ => ⟨_, _, _, _, _, he, hw, .inl ⟨rfl, ⟨by omega, by omega, by omega, by omega, by omega, by omega, by omega, by omega⟩, ?_⟩⟩
    unfold idx; omega
  obtain rfl : x2 = 254 := by omega
  by_cases h1 : x1 < 57
  · refine (next_c b off n c x0 x1 hn (by omega) h1 w c0 c1 c2 c3).mono fun e w' ⟨he, hw⟩ => ⟨_, _, _, _, _, he, hw, .inl ⟨rfl, ⟨by omega, by omega, by omega, by omega, by omega, by omega, by omega, by omega⟩, ?_⟩⟩
    unfold idx; omega
  obtain rfl : x1 = 57 := by omega
  by_cases h0 : x0 < 254
  · refine (next_d b off n c x0 hn (by omega) h0 w c0 c1 c2 c3).mono fun e w' ⟨he, hw⟩ => ⟨_, _, _, _, _, he, hw, .inl ⟨rfl, ⟨by omega, by omega, by omega, by omega, by omega, by omega, by omega, by omega⟩, ?_⟩⟩
    unfold idx; omega
  obtain rfl : x0 = 254 := by omega
  refine (next_e b off n c hn w c0 c1 c2 c3).mono fun e w' ⟨he, hw⟩ => ⟨_, _, _, _, _, he, hw, .inr ⟨rfl, ?_⟩⟩
  unfold idx; omega

/-! ### 'zzc := make([]byte, len(a)); copy(zzc, a)' -/
theorem Try.info5 : (Try.prog.info? 5).map (fun i => (i.zero, i.size, i.bytes)) = some (some (.int .u8 0), 1, 1) := by kernel_rfl
theorem Try.size5 : (Try.prog.info? 5).map (·.size) = some 1 := by kernel_rfl

/-- What is known of a slice that came in and that begins with four bytes: all its elements as cells, and the first four by name. -/
structure Src4 (w : World) (b off n : Nat) (cs : List Value) (x0 x1 x2 x3 : Int) : Prop where
  len : cs.length = n
  cells : ∀ j v, cs[j]? = some v → w.cell? ((⟨b, off, none⟩ : Addr).add j) = some v
  one : ∀ v ∈ cs, v.oneCell' = true
  e0 : cs[0]? = some (.int .u8 x0)
  e1 : cs[1]? = some (.int .u8 x1)
  e2 : cs[2]? = some (.int .u8 x2)
  e3 : cs[3]? = some (.int .u8 x3)
theorem Src4.later {w w' : World} {b off n : Nat} {cs : List Value} {x0 x1 x2 x3 : Int} (h : Src4 w b off n cs x0 x1 x2 x3) (hb : Below w.heap.size w w') : Src4 w' b off n cs x0 x1 x2 x3 :=
  ⟨h.len, fun j v hj => (hb.cell (block_lt_of_cell (h.cells j v hj))).trans (h.cells j v hj), h.one, h.e0, h.e1, h.e2, h.e3⟩
theorem Src4.four {w : World} {b off n : Nat} {cs : List Value} {x0 x1 x2 x3 : Int} (h : Src4 w b off n cs x0 x1 x2 x3) :
    w.cell? ⟨b, off, none⟩ = some (.int .u8 x0) ∧ w.cell? ⟨b, off + 1, none⟩ = some (.int .u8 x1) ∧ w.cell? ⟨b, off + 2, none⟩ = some (.int .u8 x2) ∧ w.cell? ⟨b, off + 3, none⟩ = some (.int .u8 x3) :=
  ⟨h.cells 0 _ h.e0, h.cells 1 _ h.e1, h.cells 2 _ h.e2, h.cells 3 _ h.e3⟩

theorem made_block {u : World} {base g n : Nat} {xs : List Value} (h : u.ownsRow base 5 1 (.slice (some ⟨g, 0, none⟩) n n) n xs) : ∃ cur : List Value, u.heap[g]? = some (.cells cur.toArray 5 (0, 0)) ∧ cur.length = n := by
  obtain ⟨_, ⟨h, _⟩ | ⟨g', cap, cur, hv, hb, hh, h1, h2, h3, h4⟩⟩ := h
  · cases h
  · simp only [Value.slice.injEq, Option.some.injEq, Addr.mk.injEq] at hv
    obtain ⟨⟨rfl, _⟩, _, rfl⟩ := hv
    exact ⟨cur.toList, by simpa using hh, by simpa using h3⟩

/-- 'copy(zzc, a)', zzc fresh and as long as a: the world behind it, its first four cells, and that nothing old has turned. -/
theorem copy_run {w u : World} {g b off n c : Nat} {cur cs : List Value} {x0 x1 x2 x3 : Int} (hs : Src4 w b off n cs x0 x1 x2 x3) (hn : 4 ≤ n) (hb : Below w.heap.size w u) (hg : w.heap.size ≤ g) (hblk : u.heap[g]? = some (.cells cur.toArray 5 (0, 0))) (hlen : cur.length = n) :
    ∃ u2, (Builtin.copy_ #[27, 27] 3 #[.slice (some ⟨g, 0, none⟩) n n, .slice (some ⟨b, off, none⟩) n c]).run Try.prog u = .ok (.int .i64 n) u2 ∧
      (u2.cell? ⟨g, 0, none⟩ = some (.int .u8 x0) ∧ u2.cell? ⟨g, 1, none⟩ = some (.int .u8 x1) ∧ u2.cell? ⟨g, 2, none⟩ = some (.int .u8 x2) ∧ u2.cell? ⟨g, 3, none⟩ = some (.int .u8 x3)) ∧ Below w.heap.size w u2 := by
  have hl := hs.len
  have hrun := run_copy_row (P := Try.prog) u 27 27 3 5 g 0 n n ⟨b, off, none⟩ n c cur.toArray 5 cs Try.underlying27 Try.size5 hblk (by rw [hl]; simp) (hs.later hb).cells (by simp; omega) hs.one
  rw [hl] at hrun
  refine ⟨_, hrun, ?_, below_setRow hb hg _⟩
  have hh := setRow_heap u g cur.toArray (cur.toArray.toList.take 0 ++ cs ++ cur.toArray.toList.drop (0 + n)).toArray 5 (0, 0) hblk
  have k : ∀ j, j < n → (u.setRow g (cur.toArray.toList.take 0 ++ cs ++ cur.toArray.toList.drop (0 + n)).toArray).cell? ⟨g, j, none⟩ = cs[j]? := fun j hj => by
    simp only [World.cell?, hh]
    simp only [List.take_zero, List.nil_append, List.getElem?_toArray]
    rw [List.getElem?_append_left (by omega)]
    simp
  exact ⟨(k 0 (by omega)).trans hs.e0, (k 1 (by omega)).trans hs.e1, (k 2 (by omega)).trans hs.e2, (k 3 (by omega)).trans hs.e3⟩
theorem new4 (w : World) (C : Array Value) (g j : Nat) (v : Value) (hg : g = w.heap.size) (hv : C[j]? = some v) : (w.alloc (.cells C 5)).cell? ⟨g, j, none⟩ = some v := by
  exact (World.cell?_alloc_at (w := w) C 5 g j hg).trans hv

/-- A row of bytes that came in, as the laws' walks ask for it. -/
theorem src4_of {w : World} {x : Addr} {n cap : Nat} {zs : List Int} (hl : n ≤ cap) (hz : zs.length = cap) (hcell : ∀ i, i < zs.length → w.cell? (x.add i) = some (.int .u8 (zs.getD i 0))) (hn : 4 ≤ n) :
    ∃ b off, x = ⟨b, off, none⟩ ∧ Src4 w b off n ((zs.take n).map (Value.int .u8)) (zs.getD 0 0) (zs.getD 1 0) (zs.getD 2 0) (zs.getD 3 0) := by
  obtain ⟨b, off, spot⟩ := x
  have hspot : spot = none := by simpa [Addr.add] using World.cell?_spot (hcell 0 (by omega))
  subst hspot
  have hlen : ((zs.take n).map (Value.int .u8)).length = n := by simp; omega
  have hget : ∀ j, j < n → ((zs.take n).map (Value.int .u8))[j]? = some (.int .u8 (zs.getD j 0)) := fun j hj => by
    have hj2 : j < zs.length := by omega
    rw [List.getElem?_map, List.getElem?_take_of_lt hj, List.getD_eq_getElem?_getD, List.getElem?_eq_getElem hj2]
    rfl
  refine ⟨b, off, rfl, hlen, fun j v hj => ?_, fun v hv => ?_, hget 0 (by omega), hget 1 (by omega), hget 2 (by omega), hget 3 (by omega)⟩
  · have hjn : j < n := by
      by_cases h : j < n
      · exact h
      · rw [List.getElem?_eq_none (by omega)] at hj
        cases hj
    rw [hget j hjn] at hj
    rw [← hj]
    exact hcell j (by omega)
  · obtain ⟨z, _, rfl⟩ := List.mem_map.1 hv
    rfl
end Go.Proofs.Qxb6608952a
