/-
  THE ROW's PROOF AND THE TIED CARD. After the guide's MapyProofs and MapyCard: the listed slice of strings is opened, the walk is handed its cells; the witness starts in the heap that the door's own run leaves. The tie is given (Qxb6615478aDoorTie).
-/
import Derived.Test.Qxb6615478aDoorRows
import Derived.Test.Qxb6615478aDoorTie
import Derived.Test.Qxb6615478aDoorCards
import Derived.Test.Qxb6615478aDoorWalks
import Derived.Test.Qxb6615478aDoorLaw
import Derived.ProofKit
import Derived.LaidMore
import Derived.OpenShut
import Derived.ShutString
import Derived.SliceStrings
import Derived.Stop.Joined
import Derived.SevenTiedAt
import Derived.ReadAgain
import Derived.ChangeOld
import Derived.Below
namespace Go.Proofs.Qxb6615478aDoor
open Go.ChangeShapes Go.WideShapes Go.ChangeAt Go.WideMaps Go.WideElems Go.RowKit
open Go.ChangeMaps (open_string shut_string)

theorem own : ownKnob Tryd.prog.godebug = none := by kernel_rfl
theorem laidOut : laidOutB Tryd.prog = true := by kernel_rfl
/-- The listed variable's name. -/
def vCommon : String := Rows.fnIsCommonJoinedNamesSpec.vars.headD ""
theorem gCommon : Tryd.prog.globalNamed vCommon = some 0 := by kernel_rfl
theorem tCommon : (Tryd.prog.globals[0]?).map (·.type) = some 25 := by kernel_rfl
theorem cells9 : Tryd.prog.cellsOf 9 = 1 := by kernel_rfl

/-- The row's list. -/
def laid1 : List (String × DataW Unit) := [(vCommon, Rows.laid_example_com_sigcall_sigcall_internal_param_common)]

/-- The door's own heap meets the condition: three closed facts. -/
theorem door_met (os : Os) (args : Array Value) : laidMetH Tryd.prog laid1 ((World.doorLaid Tryd.prog 14 os).forCall (fun _ _ => 0) ⟨#[], args, []⟩).memory :=
  laidMetH_of_parts3 (fuel := 8) (laidMet_of_run' 8 (by kernel_rfl) (by kernel_rfl)) (by kernel_rfl) (by kernel_rfl)

theorem strs_inj (ss : List ByteArray) (h : strs (H := Unit) ss = strs names) : ss = names := by
  have := congrArg (List.map fun d : DataW Unit => match d with | .lit (.string s) => s | _ => []) h
  simp only [strs, List.map_map] at this
  generalize names = ns at this
  clear h
  induction ss generalizing ns with
  | nil => cases ns <;> simp_all
  | cons s ss ih =>
    cases ns with
    | nil => simp at this
    | cons t ns =>
      simp only [List.map_cons, List.cons.injEq] at this
      rw [ih ns this.2, data_inj this.1]

/-- WHAT THE CONDITION GIVES THE WALKS: the variable's cell, the seven strings behind it. -/
theorem of_laid {W : World} (h : laidMetH Tryd.prog laid1 W) : CommonIs W := by
  rw [MakeChecks.laidMetH_plain _ _ _ (by kernel_rfl)] at h
  obtain ⟨ps, ⟨g0, t0, cs0, f0, p0, q0, hg0, ht0, hv0, hd0, _, _⟩, _, _⟩ := h
  obtain rfl := Option.some.inj (gCommon.symm.trans hg0)
  obtain rfl := Option.some.inj (tCommon.symm.trans ht0)
  rcases open_strings Tryd.underlying25 Tryd.underlying9 cells9 hd0 with ⟨_, hx⟩ | ⟨a, len, cap, ss, hcs, _, hl, hm, hz, hx, hcell, _⟩
  · simp [Rows.laid_example_com_sigcall_sigcall_internal_param_common] at hx
  simp only [Prod.mk.injEq, Rows.laid_example_com_sigcall_sigcall_internal_param_common, DataW.slice.injEq] at hx
  have h1 : strs (H := Unit) (ss.take len) = strs names := hx.1.1.symm
  have h2 := strs_inj _ h1
  have h3 : ss.drop len = [] := by
    have := congrArg List.length hx.1.2
    simp [strs] at this
    exact List.drop_eq_nil_of_le (by omega)
  have h4 : ss = names := by rw [← List.take_append_drop len ss, h2, h3, List.append_nil]
  subst h4
  have hl7 : names.length = 7 := rfl
  have hlen : len = 7 := by
    have := congrArg List.length h2
    rw [List.length_take, hl7] at this
    rw [hl7] at hz
    split at hz <;> omega
  subst hlen
  obtain ⟨b, off, spot⟩ := a
  have hspot : spot = none := by simpa [Addr.add] using World.cell?_spot (hcell 0 (by rw [hl7]; omega))
  subst hspot
  refine ⟨b, off, cap, ?_, fun i hi => by rw [← add_plain]; exact hcell i hi⟩
  have := World.var?_cell hg0 hv0 0
  rw [Array.eq_one_of_toList hcs] at this
  simpa using this

set_option maxRecDepth 100000 in
theorem lifted (os : Os) (started : os.Started) (H : Type) (enc : TypeId × Value → H) :
    ReturnsInHanded {} Tryd.checked os 3 .any (fun w args => (Rows.fnIsCommonJoinedNamesSpec.pre enc Tryd.prog Tryd.f3 [] false w args ∧ laidMetH Tryd.prog laid1 w) ∧ sizedMet enc Tryd.prog Tryd.f3 (OpenSpec.ofChange Rows.fnIsCommonJoinedNamesSpec) false w args)
      (Rows.fnIsCommonJoinedNamesSpec.post enc Tryd.prog Tryd.f3 false true false false) := by
  refine returnsInHanded_of_change_and (C := Tryd.checked) (X := fun w _ => laidMetH Tryd.prog laid1 w) (fun _ _ _ hh h => h.of_heap hh) own started (by kernel_rfl) Tryd.func3
    (ChangeSpec.witness_shaped (enc := enc) (C := Tryd.checked) (os := os) (X := fun w _ => laidMetH Tryd.prog laid1 w) false (World.doorLaid Tryd.prog 14 os) #[.string ByteArray.empty, .string ByteArray.empty] 8 rfl (World.shaped_of_RefB (by kernel_rfl) (by kernel_rfl)) (by kernel_rfl) (by kernel_rfl) (by kernel_rfl) (door_met os _)) ?_
  intro W base args ds gs before hval0 hW _ _ hL _
  have hval : ∀ (j : Nat) t v, Tryd.f3.params[j]? = some t → args[j]? = some v → Value.okWide Tryd.prog W .any base t v := hval0
  have hW' := hW
  obtain ⟨p, q, hA0, hV0, rfl, hfz, hnd⟩ := hW
  have hA : DataW.TrodAll enc Tryd.prog W 0 (fun _ => true) true Tryd.f3.params.toList args.toList ds p := hA0
  have hV : DataW.TrodVars enc Tryd.prog W (fun _ => true) [vCommon] gs q := hV0
  rw [Tryd.params3] at hA hval
  obtain ⟨v0, v1, d0, d1, p0, p1, hargs, rfl, rfl, h0, h1⟩ := trodAll_two hA
  obtain rfl : args = #[v0, v1] := by cases args; simp_all
  obtain ⟨a0, rfl, rfl, rfl, w0⟩ := open_string Tryd.underlying9 (hval 0 9 v0 rfl rfl) h0
  obtain ⟨a1, rfl, rfl, rfl, w1⟩ := open_string Tryd.underlying9 (hval 1 9 v1 rfl rfl) h1
  obtain ⟨g, t, cs, fuel, d, p', rfl, hg, ht, hvar, hd, rfl⟩ := trodVars_one hV
  obtain rfl := Option.some.inj (gCommon.symm.trans hg)
  obtain rfl := Option.some.inj (tCommon.symm.trans ht)
  have kv : DataW.Trod enc Tryd.prog W 0 (fun _ => true) true 25 (.agg cs) d p' := ⟨fuel, hd⟩
  have ltv : ∀ x ∈ p', x.block < W.heap.size := by obtain ⟨m, hm⟩ := kv; exact DataW.trod_lt m _ _ _ hm
  obtain ⟨fuel2, hd2⟩ := Below.trod laidOut (by kernel_rfl) (of_decide_eq_true (by kernel_rfl)) kv (Below.refl _ W) ltv
  clear hA0 hV0 hval0
  refine (walk a0 a1 w0 w1 W (of_laid hL)).mono fun e W' ⟨he, hw⟩ => ?_
  subst he; subst hw
  exact ⟨_, rfl, _, _, _, [], [], _, hW', trodAll_mk1 (shut_bool Tryd.underlying4 _), (trodAll_mk2 (shut_string Tryd.underlying9 w0) (shut_string Tryd.underlying9 w1)), trodVars_mk1 hg ht hvar hd2, World.keptBut_refl _ _, fun h => by cases h⟩

theorem fnIsCommonJoinedNames_holds : Rows.FnIsCommonJoinedNamesSaid :=
  OpenClaim.holds_of_wide 3 Tryd.f3 rfl rfl rfl rfl rfl rfl rfl ⟨rfl, rfl, rfl, rfl, rfl⟩ rfl rfl rfl rfl rfl (by kernel_rfl) Tryd.func3 (by kernel_rfl)
    (of_decide_eq_true (by kernel_rfl)) (by unfold Func.isWrapper; first | (rw [if_pos (by decide +kernel)]; kernel_rfl) | (rw [if_neg (by decide +kernel)]; exact ⟨rfl, rfl⟩))
    (fun os started H enc _ => lifted os started H enc)

/-- The given statement: the tied card. -/
theorem fnIsCommonJoinedNames_card : Rows.FnIsCommonJoinedNamesCardSaid :=
  Claim7.holds_tied_plain_at .later [] [.widerDeep] true (true, "c93a9e8d2a0c0e220fa17d14fe9ba4c0c387506d824254d615baaac077bbdc36") false
    fnIsCommonJoinedNames_holds (fun _ h => by cases h) (by kernel_rfl) (fun _ h => by cases h) fnIsCommonJoinedNames_row_tie rfl ⟨rfl, rfl⟩ (by kernel_rfl) rfl
    (fun f fn hf hfn => by
      obtain rfl : f = 3 := Option.some.inj ((show Tryd.prog.funcNamed Rows.fnIsCommonJoinedNamesRow.func = some 3 by kernel_rfl).symm.trans hf) |>.symm
      obtain rfl : fn = Tryd.f3 := (Option.some.inj (Tryd.func3.symm.trans hfn)).symm
      exact ⟨by kernel_rfl, fun j t ht => by
        rw [Tryd.params3] at ht
        have hm : t ∈ [9, 9] := by simpa using Array.mem_of_getElem? ht
        have hall : ([9, 9].all fun u => !Tryd.prog.wantsStandIn u) = true := by kernel_rfl
        exact (show Tryd.prog.wantsStandIn t = false by simpa using List.all_eq_true.1 hall t hm)⟩)
    (by kernel_rfl)
end Go.Proofs.Qxb6615478aDoor
