/-
  TerminalRequest.Marshal: the window size's eight bytes, then TERM's bytes, in a row of the call's own. Its one statement draws its order and holds a call: 'go_region_with'.
-/
import Derived.Test.Qxb6615110aWindow
import Derived.Deep.RegionWith
import Derived.RegionTactic
namespace Go.Proofs.Qxb6615110a
open Go.ChangeShapes Go.WideShapes Go.ChangeAt Go.RowKit

def tbytes (a b c d : Int) (s : ByteArray) : List Int := wbytes a b c d ++ s.data.toList.map fun b => (b.toNat : Int)

theorem tbytes_length (a b c d : Int) (s : ByteArray) : (tbytes a b c d s).length = 8 + s.size := by
  simp only [tbytes, wbytes, List.length_append, List.length_map, Array.length_toList, List.length_cons, List.length_nil]
  rfl

theorem win_cells {w : World} {g : Nat} {a b c d : Int} (h : RowIs w g (wbytes a b c d)) :
    w.cell? ⟨g, 0, none⟩ = some (.int .u8 (a / 256)) ∧ w.cell? ⟨g, 1, none⟩ = some (.int .u8 (a % 256)) ∧ w.cell? ⟨g, 2, none⟩ = some (.int .u8 (b / 256)) ∧ w.cell? ⟨g, 3, none⟩ = some (.int .u8 (b % 256)) ∧
    w.cell? ⟨g, 4, none⟩ = some (.int .u8 (c / 256)) ∧ w.cell? ⟨g, 5, none⟩ = some (.int .u8 (c % 256)) ∧ w.cell? ⟨g, 6, none⟩ = some (.int .u8 (d / 256)) ∧ w.cell? ⟨g, 7, none⟩ = some (.int .u8 (d % 256)) := by
  have l : (wbytes a b c d).length = 8 := rfl
  exact ⟨h 0 (by omega), h 1 (by omega), h 2 (by omega), h 3 (by omega), h 4 (by omega), h 5 (by omega), h 6 (by omega), h 7 (by omega)⟩

theorem row_gen (C : Array Value) (L : List Int) (hC : C = (L.map (Value.int .u8)).toArray) (s : ByteArray) (z : Array Value) (j : Nat) (hj : j < L.length + s.size) :
    (C ++ ((Array.map (fun b => Value.int IntKind.u8 (b.toNat : Int)) s.data).extract 0 s.size ++ z))[j]? = some (.int .u8 ((L ++ s.data.toList.map fun b => (b.toNat : Int)).getD j 0)) := by
  subst hC
  have hsz : s.data.size = s.size := rfl
  rw [List.getD_eq_getElem?_getD]
  by_cases h : j < L.length
  · rw [Array.getElem?_append_left (by simpa using h), List.getElem?_append_left h, List.getElem?_eq_getElem h]
    simp [h]
  · have hj2 : j - L.length < s.data.size := by omega
    rw [Array.getElem?_append_right (by simp; omega), List.getElem?_append_right (by omega)]
    simp only [List.size_toArray, List.length_map]
    rw [Array.getElem?_append_left (by simp; omega), Array.getElem?_extract, if_pos (by simp; omega), Nat.zero_add, Array.getElem?_map, List.getElem?_map, Array.getElem?_toList, Array.getElem?_eq_getElem hj2]
    rfl

theorem room8 (n : Nat) (h : n ≤ 1048576) (h0 : ¬ n = 0) : ¬ 281474976710656 < Builtin.nextslicecap (8 + n) 8 * Try.t5.bytes := by
  rw [bytes5]
  have := nextslicecap_le (need := 8 + n) (old := 8) (by omega)
  omega

set_option maxHeartbeats 800000 in
theorem term_any (a b c d : Int) (s : ByteArray) (ha : 0 ≤ a ∧ a ≤ 65535) (hb : 0 ≤ b ∧ b ≤ 65535) (hc : 0 ≤ c ∧ c ≤ 65535) (hd : 0 ≤ d ∧ d ≤ 65535) (hs : s.size ≤ 1048576) (w : World) :
    Calls Try.prog 11 #[.agg #[.int .u16 a, .int .u16 b, .int .u16 c, .int .u16 d, .string s]] w fun e w' => ∃ g cap, e = .returned (.slice (some ⟨g, 0, none⟩) (8 + s.size) cap) ∧ w.heap.size ≤ g ∧ g < w'.heap.size ∧ RowIs w' g (tbytes a b c d s) ∧ Below w.heap.size w w' := by
  have HA : Hid (0 ≤ a ∧ a ≤ 65535) := ha
  have HB : Hid (0 ≤ b ∧ b ≤ 65535) := hb
  have HC : Hid (0 ≤ c ∧ c ≤ 65535) := hc
  have HD : Hid (0 ≤ d ∧ d ≤ 65535) := hd
  clear ha hb hc hd
  by_cases h0 : s.size = 0
  · go_enter Try.func11, Try.ntmps11
    go_wp2
    go_region_with (go_at_call 12; refine (win_any _ _ _ _ HA.out HB.out HC.out HD.out _).mono ?_; rintro e u1 ⟨g, rfl, hg, hl, hrow, hbel⟩; obtain ⟨k0, k1, k2, k3, k4, k5, k6, k7⟩ := win_cells hrow; have kt : u1.cell? ⟨w.heap.size, 4, none⟩ = some (.string s) := by (rw [hbel.cell (by simp)]; simp [go_sem]))
    all_goals
      go_wp2
      go_ret
      refine ⟨g, 8, by rw [h0]; rfl, by simp at hg; omega, hl, ?_, ?_⟩
      · intro j hj
        have e0 : tbytes a b c d s = wbytes a b c d := by
          have : s.data.toList = [] := List.eq_nil_of_length_eq_zero (by simpa using h0)
          simp [tbytes, this]
        rw [e0] at hj ⊢
        exact hrow j hj
      · exact (((Below.refl _ _).alloc (by simp) _).drew).trans (hbel.mono (by simp))
  · have hr := room8 s.size hs h0
    go_enter Try.func11, Try.ntmps11
    go_wp2
    go_region_with (go_at_call 12; refine (win_any _ _ _ _ HA.out HB.out HC.out HD.out _).mono ?_; rintro e u1 ⟨g, rfl, hg, hl, hrow, hbel⟩; obtain ⟨k0, k1, k2, k3, k4, k5, k6, k7⟩ := win_cells hrow; have kt : u1.cell? ⟨w.heap.size, 4, none⟩ = some (.string s) := by (rw [hbel.cell (by simp)]; simp [go_sem]))
    all_goals
      go_wp2
      go_ret
      have hz : w.heap.size + 1 ≤ u1.heap.size := by have := hbel.size; simpa using this
      refine ⟨u1.heap.size, _, rfl, by omega, by simp, ?_, ?_⟩
      · intro j hj
        rw [tbytes_length] at hj
        have h := row_gen _ (wbytes a b c d) rfl s (Builtin.zeroCells #[Value.int IntKind.u8 0]
              ((Question.appendCap (8 + s.size) 8 5).cut (u1.tape u1.drawn (Question.appendCap (8 + s.size) 8 5)) -
                (8 + s.size))) j (by have l : (wbytes a b c d).length = 8 := rfl; omega)
        refine Eq.trans ?_ h
        simp [go_sem, wbytes]
      · exact ((((Below.refl _ _).alloc (by simp) _).drew).trans (hbel.mono (by simp))).alloc (by omega) _ |>.drew
end Go.Proofs.Qxb6615110a
