/-
  slices.Index, slices.Contains at []string, and param.IsCommon: they only read.
-/
import Derived.Test.Qxb6615478aDoorRows
import Derived.WalkKit
import Derived.ProofKit
import Derived.OpenShut
import Derived.ShutString
import Derived.Below
import Derived.Outline
namespace Go.Proofs.Qxb6615478aDoor
open Go.ChangeShapes Go.WideShapes Go.ChangeAt Go.RowKit

/-- Go's '==' at two strings that are not one. -/
theorem str_ne {s t : ByteArray} (h : ¬ s = t) : (s.toList == t.toList) = false := by
  rw [beq_eq_false_iff_ne]
  intro e
  rw [ByteArray.toList_eq, ByteArray.toList_eq] at e
  exact h (by cases s; cases t; simp at e; rw [e])

/-- A row of strings in memory. -/
def StrRow (w : World) (b off : Nat) (ss : List ByteArray) : Prop := ∀ i, i < ss.length → w.cell? ⟨b, off + i, none⟩ = some (.string (ss.getD i ByteArray.empty))

theorem mem_of_getD (ss : List ByteArray) (k : Nat) (h : k < ss.length) : ss.getD k ByteArray.empty ∈ ss := by
  rw [List.getD_eq_getElem?_getD, List.getElem?_eq_getElem h]
  exact List.getElem_mem h
theorem not_mem_of (ss : List ByteArray) (x : ByteArray) (h : ∀ j, j < ss.length → ¬ x = ss.getD j ByteArray.empty) : ¬ x ∈ ss := by
  intro hm
  obtain ⟨j, hj, e⟩ := List.mem_iff_getElem.1 hm
  refine h j hj ?_
  rw [List.getD_eq_getElem?_getD, List.getElem?_eq_getElem hj]
  exact e.symm

set_option maxHeartbeats 400000 in
theorem index_any (ss : List ByteArray) (x : ByteArray) (n b off cap : Nat) (w : World) (hrow : StrRow w b off ss) (hn : Hid (ss.length = n)) (hm : n ≤ 1048576) :
    Calls Tryd.prog 7 #[.slice (some ⟨b, off, none⟩) n cap, .string x] w fun e w' => (∃ r : Int, e = .returned (.int .i64 r) ∧ (0 ≤ r ↔ x ∈ ss)) ∧ w' = w := by
  go_enter Tryd.func7, Tryd.ntmps7
  go_wp2
  go_loop [8] (fun i => ∃ k : Nat, k ≤ n ∧ i = .int .i64 k ∧ Hid (∀ j, j < k → ¬ x = ss.getD j ByteArray.empty)) (fun i => n - (intOf i).toNat)
  case atStart => exact ⟨0, by omega, rfl, fun j hj => by omega⟩
  case round =>
    obtain ⟨k, hk, rfl, hno⟩ := hrel
    by_cases hlt : k < n
    · have i0 : (0 : Int) ≤ (k : Int) := by omega
      have i1 : (k : Int) < (n : Int) := by omega
      have hks : k < ss.length := by rw [hn.out]; exact hlt
      have cA := hrow k hks
      obtain ⟨y, hy⟩ : ∃ y, y = ss.getD k ByteArray.empty := ⟨_, rfl⟩
      rw [← hy] at cA
      by_cases he : x = y
      · have H : Hid (x ∈ ss) := by rw [he, hy]; exact mem_of_getD ss k hks
        clear hy hks
        subst he
        go_wp2
        go_ret
        exact ⟨⟨(k : Int), rfl, fun _ => H.out, fun _ => i0⟩, rfl⟩
      · have H : Hid (∀ j, j < k + 1 → ¬ x = ss.getD j ByteArray.empty) := fun j hj => by
          by_cases e : j = k
          · rw [e, ← hy]; exact he
          · exact hno.out j (by omega)
        have hq := str_ne he
        clear hy hks he
        go_wp2
        go_round
        case rel => exact ⟨k + 1, by omega, by go_num, H⟩
        case measure => simp [intOf]; omega
    · have H : Hid (¬ x ∈ ss) := not_mem_of ss x fun j hj => hno.out j (by have := hn.out; omega)
      go_wp2
      go_ret
      exact ⟨⟨-1, rfl, fun h => absurd h (by decide), fun h => absurd h H.out⟩, rfl⟩

/-- Is x among the strings ss? -/
def isIn (ss : List ByteArray) (x : ByteArray) : Bool := decide (x.data.toList ∈ ss.map fun s => s.data.toList)
theorem data_inj {s t : ByteArray} (h : s.data.toList = t.data.toList) : s = t := by cases s; cases t; simp at h; rw [h]
theorem isIn_iff (ss : List ByteArray) (x : ByteArray) : isIn ss x = true ↔ x ∈ ss := by
  simp only [isIn, decide_eq_true_eq, List.mem_map]
  exact ⟨fun ⟨a, ha, e⟩ => data_inj e ▸ ha, fun h => ⟨x, h, rfl⟩⟩

theorem contains_any (ss : List ByteArray) (x : ByteArray) (n b off cap : Nat) (w : World) (hrow : StrRow w b off ss) (hn : Hid (ss.length = n)) (hm : n ≤ 1048576) :
    Calls Tryd.prog 6 #[.slice (some ⟨b, off, none⟩) n cap, .string x] w fun e w' => e = .returned (.bool (isIn ss x)) ∧ w' = w := by
  go_enter Tryd.func6, Tryd.ntmps6
  go_wp2_with fail
  refine (index_any ss x n b off cap _ hrow hn hm).mono ?_
  rintro e w' ⟨⟨r, rfl, hr⟩, rfl⟩
  have H : Hid (decide (0 ≤ r) = isIn ss x) := by
    unfold Hid
    rw [Bool.eq_iff_iff, decide_eq_true_eq, isIn_iff]
    exact hr
  clear hr
  go_wp2
  go_ret
  exact ⟨by rw [← H.out]; rfl, rfl⟩

/-- THE COMMON NAMES. -/
def names : List ByteArray := [⟨#[65, 99, 116, 105, 111, 110]⟩, ⟨#[65, 112, 112, 73, 100]⟩, ⟨#[83, 105, 103, 110, 97, 116, 117, 114, 101, 78, 111, 110, 99, 101]⟩, ⟨#[84, 105, 109, 101, 115, 116, 97, 109, 112]⟩, ⟨#[83, 105, 103, 110, 97, 116, 117, 114, 101]⟩, ⟨#[83, 105, 103, 110, 97, 116, 117, 114, 101, 86, 101, 114, 115, 105, 111, 110]⟩, ⟨#[73, 115, 84, 101, 115, 116]⟩]
def isC (x : ByteArray) : Bool := isIn names x

/-- WHAT THE WALKS ARE TOLD OF THE LISTED VARIABLE. -/
def CommonIs (w : World) : Prop := ∃ b off cap, w.cell? ⟨0, 0, none⟩ = some (.slice (some ⟨b, off, none⟩) 7 cap) ∧ StrRow w b off names

theorem isCommon_any (x : ByteArray) (w : World) (h : CommonIs w) :
    Calls Tryd.prog 5 #[.string x] w fun e w' => e = .returned (.bool (isC x)) ∧ w' = w := by
  obtain ⟨b, off, cap, hc, hrow⟩ := h
  have HR : Hid (StrRow w b off names) := hrow
  clear hrow
  go_enter Tryd.func5, Tryd.ntmps5
  go_wp2_with fail
  refine (contains_any names x 7 b off cap _ HR.out rfl (by omega)).mono ?_
  rintro e w' ⟨rfl, rfl⟩
  go_wp2
  go_ret
  exact ⟨rfl, rfl⟩
end Go.Proofs.Qxb6615478aDoor
