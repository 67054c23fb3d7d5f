/-
  sameBytes: two rows of bytes are compared, byte by byte. It only reads.
-/
import Derived.Test.Qxb6615110aMarshal
import Derived.Deep.QuietTactic
import Derived.BigQuiet
import Derived.Deep.Draws
namespace Go.Proofs.Qxb6615110a
open Go.ChangeShapes Go.WideShapes Go.ChangeAt Go.RowKit

theorem take_eq_succ (A B : List Int) (k : Nat) (ha : k < A.length) (hb : k < B.length) (h : A.take k = B.take k) (he : A.getD k 0 = B.getD k 0) : A.take (k + 1) = B.take (k + 1) := by
  rw [List.take_succ_eq_append_getElem ha, List.take_succ_eq_append_getElem hb, h]
  simp [ha, hb] at he
  rw [he]

theorem ne_of_get (A B : List Int) (k : Nat) (he : A.getD k 0 ≠ B.getD k 0) : A ≠ B := fun h => he (by rw [h])
theorem eq_of_takes (A B : List Int) (k : Nat) (hl : A.length = B.length) (hk : A.length ≤ k) (h : A.take k = B.take k) : A = B := by
  rwa [List.take_of_length_le hk, List.take_of_length_le (by omega)] at h

set_option maxHeartbeats 400000 in
theorem same_any (A B : List Int) (na nb ga gb ca cb : Nat) (w : World) (hA : RowIs w ga A) (hB : RowIs w gb B) (hna : Hid (A.length = na)) (hnb : Hid (B.length = nb)) (ha : na ≤ 1048600) (hb : nb ≤ 1048600) :
    Calls Try.prog 9 #[.slice (some ⟨ga, 0, none⟩) na ca, .slice (some ⟨gb, 0, none⟩) nb cb] w fun e w' => e = .returned (.bool (decide (A = B))) ∧ ∃ n, w' = w.drewN n := by
  by_cases hl : na = nb
  · subst hl
    go_enter Try.func9, Try.ntmps9
    go_wp2
    go_loopw [5] (fun i wr => ∃ k : Nat, k ≤ na ∧ i = .int .i64 k ∧ Hid (A.take k = B.take k) ∧ ∃ n, wr = w.drewN n) (fun i _ => na - (intOf i).toNat)
    case atStart => exact ⟨0, by omega, rfl, by simp [Hid], 0, rfl⟩
    case round =>
      obtain ⟨k, hk, rfl, htk, n, rfl⟩ := hrel
      by_cases hlt : k < na
      · have hlt' : (k : Int) < (na : Int) := by omega
        have hk0 : (0 : Int) ≤ (k : Int) := by omega
        obtain ⟨x, hx⟩ : ∃ x, x = A.getD k 0 := ⟨_, rfl⟩
        obtain ⟨y, hy⟩ : ∃ y, y = B.getD k 0 := ⟨_, rfl⟩
        have cA := hA k (by rw [hna.out]; exact hlt)
        have cB := hB k (by rw [hnb.out]; exact hlt)
        rw [← hx] at cA
        rw [← hy] at cB
        by_cases he : x = y
        · have H : Hid (A.take (k + 1) = B.take (k + 1)) := take_eq_succ A B k (by rw [hna.out]; exact hlt) (by rw [hnb.out]; exact hlt) htk.out (by rw [← hx, ← hy]; exact he)
          clear hx hy
          subst he
          go_wp2
          go_quiet (fail)
          go_wp2
          go_roundw
          case rel => exact ⟨k + 1, by omega, by go_num, H, n + nq, by simp⟩
          case measure => simp [intOf]; omega
        · have H : Hid (A ≠ B) := ne_of_get A B k (by rw [← hx, ← hy]; exact he)
          clear hx hy
          have hne : (x != y) = true := by simpa using he
          go_wp2
          go_quiet (fail)
          go_wp2
          go_ret
          exact ⟨by rw [decide_eq_false H.out]; rfl, n + nq, by simp⟩
      · have H : Hid (A = B) := eq_of_takes A B k (by rw [hna.out, hnb.out]) (by rw [hna.out]; omega) htk.out
        go_wp2
        go_ret
        exact ⟨by rw [decide_eq_true H.out]; rfl, n, rfl⟩
  · have H : Hid (A ≠ B) := fun h => hl (by rw [← hna.out, ← hnb.out, h])
    go_enter Try.func9, Try.ntmps9
    go_wp2
    go_ret
    exact ⟨by rw [decide_eq_false H.out]; rfl, 0, rfl⟩
theorem same_yes (A B : List Int) (na nb ga gb ca cb : Nat) (w : World) (hA : RowIs w ga A) (hB : RowIs w gb B) (hna : A.length = na) (hnb : B.length = nb) (ha : na ≤ 1048600) (hb : nb ≤ 1048600) (h : A = B) :
    Calls Try.prog 9 #[.slice (some ⟨ga, 0, none⟩) na ca, .slice (some ⟨gb, 0, none⟩) nb cb] w fun e w' => e = .returned (.bool true) ∧ ∃ n, w' = w.drewN n :=
  (same_any A B na nb ga gb ca cb w hA hB hna hnb ha hb).mono fun _ _ ⟨he, hw⟩ => ⟨by rw [he, decide_eq_true h], hw⟩
theorem same_no (A B : List Int) (na nb ga gb ca cb : Nat) (w : World) (hA : RowIs w ga A) (hB : RowIs w gb B) (hna : A.length = na) (hnb : B.length = nb) (ha : na ≤ 1048600) (hb : nb ≤ 1048600) (h : A ≠ B) :
    Calls Try.prog 9 #[.slice (some ⟨ga, 0, none⟩) na ca, .slice (some ⟨gb, 0, none⟩) nb cb] w fun e w' => e = .returned (.bool false) ∧ ∃ n, w' = w.drewN n :=
  (same_any A B na nb ga gb ca cb w hA hB hna hnb ha hb).mono fun _ _ ⟨he, hw⟩ => ⟨by rw [he, decide_eq_false h], hw⟩

theorem RowIs.later {w w' : World} {g : Nat} {L : List Int} (h : RowIs w g L) (hb : Below w.heap.size w w') (hg : g < w.heap.size) : RowIs w' g L := fun j hj => (hb.cell (p := ⟨g, j, none⟩) hg).trans (h j hj)

theorem toNat_list_inj (l m : List UInt8) (h : l.map (fun b => (b.toNat : Int)) = m.map (fun b => (b.toNat : Int))) : l = m := by
  induction l generalizing m with
  | nil => cases m <;> simp_all
  | cons a l ih =>
    cases m with
    | nil => simp at h
    | cons b m =>
      simp only [List.map_cons, List.cons.injEq] at h
      have e : a = b := UInt8.toNat_inj.1 (by omega)
      rw [ih m h.2, e]

theorem bytes_inj {s t : ByteArray} (h : s.data.toList.map (fun b => (b.toNat : Int)) = t.data.toList.map (fun b => (b.toNat : Int))) : s = t := by
  have := toNat_list_inj _ _ h
  cases s; cases t
  simp at this
  rw [this]

/-- Go's '==' at two strings that are not one. -/
theorem str_ne {s t : ByteArray} (h : ¬ s = t) : (s.toList == t.toList) = false := by
  rw [beq_eq_false_iff_ne]
  intro e
  rw [ByteArray.toList_eq, ByteArray.toList_eq] at e
  exact h (by cases s; cases t; simp at e; rw [e])
end Go.Proofs.Qxb6615110a
