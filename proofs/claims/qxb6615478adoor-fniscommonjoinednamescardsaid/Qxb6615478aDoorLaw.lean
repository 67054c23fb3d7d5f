/-
  THE LAW's WALK: for every two strings the call returns true and leaves the world as it was.
-/
import Derived.Test.Qxb6615478aDoorWalks
namespace Go.Proofs.Qxb6615478aDoor
open Go.ChangeShapes Go.WideShapes Go.ChangeAt Go.RowKit

/-! ### THE PLAIN LAW -/
def sigL : List UInt8 := [83, 105, 103, 110, 97, 116, 117, 114, 101]
def nonL : List UInt8 := [83, 105, 103, 110, 97, 116, 117, 114, 101, 78, 111, 110, 99, 101]
def verL : List UInt8 := [83, 105, 103, 110, 97, 116, 117, 114, 101, 86, 101, 114, 115, 105, 111, 110]
def nameLs : List (List UInt8) := names.map fun s => s.data.toList

/-- Each common name, cut at each place inside it. -/
def cutB (N : List UInt8) (i : Nat) : Bool := !(decide (0 < i) && decide (i < N.length)) || ((!(decide (N.take i ∈ nameLs)) || (decide (N.take i = sigL) && (decide (N = nonL) || decide (N = verL)))) && !(decide (N.drop i ∈ nameLs)))
theorem cutsB : (nameLs.all fun N => (List.range 16).all fun i => cutB N i) = true := by decide +kernel
theorem cuts (N : List UInt8) (hN : N ∈ nameLs) (i : Nat) (hi : i < 16) (h0 : 0 < i) (h1 : i < N.length) : (N.take i ∈ nameLs → N.take i = sigL ∧ (N = nonL ∨ N = verL)) ∧ ¬ N.drop i ∈ nameLs := by
  have h := List.all_eq_true.1 (List.all_eq_true.1 cutsB N hN) i (List.mem_range.2 hi)
  simp only [cutB, h0, h1, decide_true, Bool.and_true, Bool.not_true, Bool.false_or, Bool.and_eq_true, Bool.or_eq_true, Bool.not_eq_true', decide_eq_true_eq, decide_eq_false_iff_not] at h
  exact ⟨fun hm => h.1.resolve_left fun hn => hn hm, h.2⟩
theorem lens : ∀ N ∈ nameLs, N.length ≤ 16 := by decide +kernel
theorem in1 : nonL ∈ nameLs := by decide +kernel
theorem in2 : verL ∈ nameLs := by decide +kernel
theorem in3 : sigL ∈ nameLs := by decide +kernel

theorem isC_iff (x : ByteArray) : isC x = true ↔ x.data.toList ∈ nameLs := by simp [isC, isIn, nameLs]
theorem isC_not (x : ByteArray) : isC x = false ↔ ¬ x.data.toList ∈ nameLs := by simp [isC, isIn, nameLs]
theorem app_data (a b : ByteArray) : (a ++ b).data.toList = a.data.toList ++ b.data.toList := by simp

theorem law (a b : ByteArray) (ha : ¬ a.size = 0) (hb : ¬ b.size = 0) (h : isC (a ++ b) = true) :
    (isC a = true → a.data.toList = sigL ∧ ((a ++ b).data.toList = nonL ∨ (a ++ b).data.toList = verL)) ∧ isC b = false := by
  rw [isC_iff] at h
  have la : a.data.toList.length = a.size := Array.length_toList
  have lb : b.data.toList.length = b.size := Array.length_toList
  have l := lens _ h
  have e := app_data a b
  have ll : (a ++ b).data.toList.length = a.size + b.size := by rw [e, List.length_append, la, lb]
  have c := cuts _ h a.size (by omega) (by omega) (by omega)
  have t : (a ++ b).data.toList.take a.size = a.data.toList := by rw [e, ← la, List.take_left]
  have d : (a ++ b).data.toList.drop a.size = b.data.toList := by rw [e, ← la, List.drop_left]
  rw [t, d] at c
  exact ⟨fun hA => c.1 ((isC_iff a).1 hA), (isC_not b).2 c.2⟩

theorem beq_t (x : ByteArray) (L : List UInt8) (h : x.data.toList = L) : (x.toList == L) = true := by rw [ByteArray.toList_eq, h]; simp
theorem beq_f (x : ByteArray) (L : List UInt8) (h : ¬ x.data.toList = L) : (x.toList == L) = false := by rw [ByteArray.toList_eq, beq_eq_false_iff_ne]; exact h

/-! ### THE WALKS -/
theorem zz_yes (s1 s2 : ByteArray) (h : s1.size + s2.size ≤ 1048576) (w : World) :
    Calls Tryd.prog 4 #[.string s1, .string s2] w fun e w' => e = .returned (.bool true) ∧ w' = w := by
  go_enter Tryd.func4, Tryd.ntmps4
  go_wp2
  go_ret
  exact ⟨rfl, rfl⟩
theorem zz_no (s1 s2 : ByteArray) (h1 : s1.size ≤ 9223372036854775807) (h2 : s2.size ≤ 9223372036854775807) (h : 1048576 < s1.size + s2.size) (w : World) :
    Calls Tryd.prog 4 #[.string s1, .string s2] w fun e w' => e = .returned (.bool false) ∧ w' = w := by
  by_cases ha : s1.size ≤ 1048576
  · by_cases hb : s2.size ≤ 1048576
    · go_enter Tryd.func4, Tryd.ntmps4
      go_wp2
      go_ret
      exact ⟨rfl, rfl⟩
    · go_enter Tryd.func4, Tryd.ntmps4
      go_wp2
      go_ret
      exact ⟨rfl, rfl⟩
  · go_enter Tryd.func4, Tryd.ntmps4
    go_wp2
    go_ret
    exact ⟨rfl, rfl⟩

set_option maxHeartbeats 800000 in
theorem walk_no (a b : ByteArray) (ha : a.size ≤ 65536) (hb : b.size ≤ 65536) (za : ((a.size : Int) == 0) = false) (zb : ((b.size : Int) == 0) = false) (w : World) (HC : Hid (CommonIs w)) (hAB : isC (a ++ b) = false) (hN : ((a ++ b).toList == [83, 105, 103, 110, 97, 116, 117, 114, 101, 78, 111, 110, 99, 101]) = false) (hV : ((a ++ b).toList == [83, 105, 103, 110, 97, 116, 117, 114, 101, 86, 101, 114, 115, 105, 111, 110]) = false) :
    Calls Tryd.prog 3 #[.string a, .string b] w fun e w' => e = .returned (.bool true) ∧ w' = w := by
  by_cases hA : isC a = true
  · by_cases hB : isC b = true
    · by_cases hS : (a.toList == [83, 105, 103, 110, 97, 116, 117, 114, 101]) = true
      · go_enter Tryd.func3, Tryd.ntmps3
        go_wp2_with (first | (go_at_call 4; refine (zz_yes _ _ (by omega) _).mono ?_; rintro e w' ⟨rfl, rfl⟩) | (go_at_call 5; refine (isCommon_any _ _ HC.out).mono ?_; rintro e w' ⟨rfl, rfl⟩))
        go_ret
        exact ⟨rfl, rfl⟩
      · rw [Bool.not_eq_true] at hS
        go_enter Tryd.func3, Tryd.ntmps3
        go_wp2_with (first | (go_at_call 4; refine (zz_yes _ _ (by omega) _).mono ?_; rintro e w' ⟨rfl, rfl⟩) | (go_at_call 5; refine (isCommon_any _ _ HC.out).mono ?_; rintro e w' ⟨rfl, rfl⟩))
        go_ret
        exact ⟨rfl, rfl⟩
    · rw [Bool.not_eq_true] at hB
      by_cases hS : (a.toList == [83, 105, 103, 110, 97, 116, 117, 114, 101]) = true
      · go_enter Tryd.func3, Tryd.ntmps3
        go_wp2_with (first | (go_at_call 4; refine (zz_yes _ _ (by omega) _).mono ?_; rintro e w' ⟨rfl, rfl⟩) | (go_at_call 5; refine (isCommon_any _ _ HC.out).mono ?_; rintro e w' ⟨rfl, rfl⟩))
        go_ret
        exact ⟨rfl, rfl⟩
      · rw [Bool.not_eq_true] at hS
        go_enter Tryd.func3, Tryd.ntmps3
        go_wp2_with (first | (go_at_call 4; refine (zz_yes _ _ (by omega) _).mono ?_; rintro e w' ⟨rfl, rfl⟩) | (go_at_call 5; refine (isCommon_any _ _ HC.out).mono ?_; rintro e w' ⟨rfl, rfl⟩))
        go_ret
        exact ⟨rfl, rfl⟩
  · rw [Bool.not_eq_true] at hA
    by_cases hB : isC b = true
    · by_cases hS : (a.toList == [83, 105, 103, 110, 97, 116, 117, 114, 101]) = true
      · go_enter Tryd.func3, Tryd.ntmps3
        go_wp2_with (first | (go_at_call 4; refine (zz_yes _ _ (by omega) _).mono ?_; rintro e w' ⟨rfl, rfl⟩) | (go_at_call 5; refine (isCommon_any _ _ HC.out).mono ?_; rintro e w' ⟨rfl, rfl⟩))
        go_ret
        exact ⟨rfl, rfl⟩
      · rw [Bool.not_eq_true] at hS
        go_enter Tryd.func3, Tryd.ntmps3
        go_wp2_with (first | (go_at_call 4; refine (zz_yes _ _ (by omega) _).mono ?_; rintro e w' ⟨rfl, rfl⟩) | (go_at_call 5; refine (isCommon_any _ _ HC.out).mono ?_; rintro e w' ⟨rfl, rfl⟩))
        go_ret
        exact ⟨rfl, rfl⟩
    · rw [Bool.not_eq_true] at hB
      by_cases hS : (a.toList == [83, 105, 103, 110, 97, 116, 117, 114, 101]) = true
      · go_enter Tryd.func3, Tryd.ntmps3
        go_wp2_with (first | (go_at_call 4; refine (zz_yes _ _ (by omega) _).mono ?_; rintro e w' ⟨rfl, rfl⟩) | (go_at_call 5; refine (isCommon_any _ _ HC.out).mono ?_; rintro e w' ⟨rfl, rfl⟩))
        go_ret
        exact ⟨rfl, rfl⟩
      · rw [Bool.not_eq_true] at hS
        go_enter Tryd.func3, Tryd.ntmps3
        go_wp2_with (first | (go_at_call 4; refine (zz_yes _ _ (by omega) _).mono ?_; rintro e w' ⟨rfl, rfl⟩) | (go_at_call 5; refine (isCommon_any _ _ HC.out).mono ?_; rintro e w' ⟨rfl, rfl⟩))
        go_ret
        exact ⟨rfl, rfl⟩
set_option maxHeartbeats 800000 in
theorem walk_non (a b : ByteArray) (ha : a.size ≤ 65536) (hb : b.size ≤ 65536) (za : ((a.size : Int) == 0) = false) (zb : ((b.size : Int) == 0) = false) (w : World) (HC : Hid (CommonIs w)) (hAB : isC (a ++ b) = true) (hA : isC a = true) (hB : isC b = false) (hS : (a.toList == [83, 105, 103, 110, 97, 116, 117, 114, 101]) = true) (hN : ((a ++ b).toList == [83, 105, 103, 110, 97, 116, 117, 114, 101, 78, 111, 110, 99, 101]) = true) :
    Calls Tryd.prog 3 #[.string a, .string b] w fun e w' => e = .returned (.bool true) ∧ w' = w := by
  go_enter Tryd.func3, Tryd.ntmps3
  go_wp2_with (first | (go_at_call 4; refine (zz_yes _ _ (by omega) _).mono ?_; rintro e w' ⟨rfl, rfl⟩) | (go_at_call 5; refine (isCommon_any _ _ HC.out).mono ?_; rintro e w' ⟨rfl, rfl⟩))
  go_ret
  exact ⟨rfl, rfl⟩
set_option maxHeartbeats 800000 in
theorem walk_ver (a b : ByteArray) (ha : a.size ≤ 65536) (hb : b.size ≤ 65536) (za : ((a.size : Int) == 0) = false) (zb : ((b.size : Int) == 0) = false) (w : World) (HC : Hid (CommonIs w)) (hAB : isC (a ++ b) = true) (hA : isC a = true) (hB : isC b = false) (hS : (a.toList == [83, 105, 103, 110, 97, 116, 117, 114, 101]) = true) (hN : ((a ++ b).toList == [83, 105, 103, 110, 97, 116, 117, 114, 101, 78, 111, 110, 99, 101]) = false) (hV : ((a ++ b).toList == [83, 105, 103, 110, 97, 116, 117, 114, 101, 86, 101, 114, 115, 105, 111, 110]) = true) :
    Calls Tryd.prog 3 #[.string a, .string b] w fun e w' => e = .returned (.bool true) ∧ w' = w := by
  go_enter Tryd.func3, Tryd.ntmps3
  go_wp2_with (first | (go_at_call 4; refine (zz_yes _ _ (by omega) _).mono ?_; rintro e w' ⟨rfl, rfl⟩) | (go_at_call 5; refine (isCommon_any _ _ HC.out).mono ?_; rintro e w' ⟨rfl, rfl⟩))
  go_ret
  exact ⟨rfl, rfl⟩
set_option maxHeartbeats 800000 in
theorem walk_own (a b : ByteArray) (ha : a.size ≤ 65536) (hb : b.size ≤ 65536) (za : ((a.size : Int) == 0) = false) (zb : ((b.size : Int) == 0) = false) (w : World) (HC : Hid (CommonIs w)) (_hAB : isC (a ++ b) = true) (hA : isC a = false) (hB : isC b = false) (hS : (a.toList == [83, 105, 103, 110, 97, 116, 117, 114, 101]) = false) :
    Calls Tryd.prog 3 #[.string a, .string b] w fun e w' => e = .returned (.bool true) ∧ w' = w := by
  go_enter Tryd.func3, Tryd.ntmps3
  go_wp2_with (first | (go_at_call 4; refine (zz_yes _ _ (by omega) _).mono ?_; rintro e w' ⟨rfl, rfl⟩) | (go_at_call 5; refine (isCommon_any _ _ HC.out).mono ?_; rintro e w' ⟨rfl, rfl⟩))
  go_ret
  exact ⟨rfl, rfl⟩

theorem walk (a b : ByteArray) (wa : a.size ≤ maxLen) (wb : b.size ≤ maxLen) (w : World) (hC : CommonIs w) :
    Calls Tryd.prog 3 #[.string a, .string b] w fun e w' => e = .returned (.bool true) ∧ w' = w := by
  have HC : Hid (CommonIs w) := hC
  clear hC
  unfold maxLen at wa wb
  by_cases hsum : a.size + b.size ≤ 1048576
  · by_cases ha : a.size ≤ 65536
    · by_cases hb : b.size ≤ 65536
      · by_cases za : a.size = 0
        · have za' : ((a.size : Int) == 0) = true := by rw [beq_iff_eq]; omega
          go_enter Tryd.func3, Tryd.ntmps3
          go_wp2_with (first | (go_at_call 4; refine (zz_yes _ _ (by omega) _).mono ?_; rintro e w' ⟨rfl, rfl⟩) | (go_at_call 5; refine (isCommon_any _ _ HC.out).mono ?_; rintro e w' ⟨rfl, rfl⟩))
          go_ret
          exact ⟨rfl, rfl⟩
        · have za' : ((a.size : Int) == 0) = false := by rw [beq_eq_false_iff_ne]; omega
          by_cases zb : b.size = 0
          · have zb' : ((b.size : Int) == 0) = true := by rw [beq_iff_eq]; omega
            go_enter Tryd.func3, Tryd.ntmps3
            go_wp2_with (first | (go_at_call 4; refine (zz_yes _ _ (by omega) _).mono ?_; rintro e w' ⟨rfl, rfl⟩) | (go_at_call 5; refine (isCommon_any _ _ HC.out).mono ?_; rintro e w' ⟨rfl, rfl⟩))
            go_ret
            exact ⟨rfl, rfl⟩
          · have zb' : ((b.size : Int) == 0) = false := by rw [beq_eq_false_iff_ne]; omega
            by_cases hAB : isC (a ++ b) = true
            · obtain ⟨l1, l2⟩ := law a b za zb hAB
              by_cases hA : isC a = true
              · obtain ⟨s1, s2⟩ := l1 hA
                by_cases hN : (a ++ b).data.toList = nonL
                · exact walk_non a b ha hb za' zb' w HC hAB hA l2 (beq_t a sigL s1) (beq_t (a ++ b) nonL hN)
                · exact walk_ver a b ha hb za' zb' w HC hAB hA l2 (beq_t a sigL s1) (beq_f (a ++ b) nonL hN) (beq_t (a ++ b) verL (s2.resolve_left hN))
              · have hA' : isC a = false := by simpa using hA
                exact walk_own a b ha hb za' zb' w HC hAB hA' l2 (beq_f a sigL fun e => hA ((isC_iff a).2 (by rw [e]; exact in3)))
            · have hAB' : isC (a ++ b) = false := by simpa using hAB
              exact walk_no a b ha hb za' zb' w HC hAB' (beq_f (a ++ b) nonL fun e => hAB ((isC_iff _).2 (by rw [e]; exact in1))) (beq_f (a ++ b) verL fun e => hAB ((isC_iff _).2 (by rw [e]; exact in2)))
      · go_enter Tryd.func3, Tryd.ntmps3
        go_wp2_with (first | (go_at_call 4; refine (zz_yes _ _ (by omega) _).mono ?_; rintro e w' ⟨rfl, rfl⟩) | (go_at_call 5; refine (isCommon_any _ _ HC.out).mono ?_; rintro e w' ⟨rfl, rfl⟩))
        go_ret
        exact ⟨rfl, rfl⟩
    · go_enter Tryd.func3, Tryd.ntmps3
      go_wp2_with (first | (go_at_call 4; refine (zz_yes _ _ (by omega) _).mono ?_; rintro e w' ⟨rfl, rfl⟩) | (go_at_call 5; refine (isCommon_any _ _ HC.out).mono ?_; rintro e w' ⟨rfl, rfl⟩))
      go_ret
      exact ⟨rfl, rfl⟩
  · go_enter Tryd.func3, Tryd.ntmps3
    go_wp2_with (go_at_call 4; refine (zz_no _ _ (by omega) (by omega) (by omega) _).mono ?_; rintro e w' ⟨rfl, rfl⟩)
    go_ret
    exact ⟨rfl, rfl⟩
end Go.Proofs.Qxb6615478aDoor
