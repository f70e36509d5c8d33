/-
  Proved here: the statement 'Rows.FnEncodeLastSaid': for every input the law FnEncodeLast returns true and leaves its argument as it was. Conditions: none beyond the given row's own.
  The frame is after the kit's skeleton; the walk is in the imported text.
-/
import Derived.Test.YtincmkjffohekaaDoorCards
import Derived.Test.YtincmkjffohekaaDoorTie
import Derived.Test.YtincmkjffohekaaDoorL5
import Derived.WalkKit
import Derived.ProofKit
import Derived.OpenShut
import Derived.ShutString
import Derived.ChangeOld
import Derived.Below
import Derived.Test.YtincmkjffohekaaDoorRead
import Derived.Test.YtincmkjffohekaaDoorHead
import Derived.Lay
import Derived.LaidMore
import Derived.LaidOnce
import Derived.Deep.DeepHandedRow
namespace Go.Proofs.YtincmkjffohekaaDoor.fnEncodeLast
open Go.ChangeShapes Go.WideShapes Go.ChangeAt Go.RowKit
open Go.ChangeMaps (open_string shut_string)
set_option linter.unusedVariables false

theorem own : ownKnob Tryd.prog.godebug = none := by kernel_rfl
theorem laidOut : laidOutB Tryd.prog = true := by kernel_rfl

theorem same : Rows.fnEncodeLastRow.laid = laid2 := rfl
theorem met (os : Os) (args : Array Value) : laidMetH Tryd.prog laid2 ((World.laidAll Tryd.prog os laid2).forCall (fun _ _ => 0) ⟨#[], args, []⟩).memory := by
  rw [MakeChecks.laidMetH_plain _ _ _ (by kernel_rfl)]
  exact laidMet_laidAll _ (by kernel_rfl) (by kernel_rfl)

set_option maxRecDepth 100000 in
theorem lifted (os : Os) (started : os.Started) (H : Type) (enc : TypeId × Value → H) :
    ReturnsInHanded {} Tryd.checked os 17 .any (fun w args => (Rows.fnEncodeLastSpec.pre enc Tryd.prog Tryd.f17 Rows.fnEncodeLastRow.domain false w args ∧ laidMetH Tryd.prog Rows.fnEncodeLastRow.laid w) ∧ sizedMet enc Tryd.prog Tryd.f17 (OpenSpec.ofChange Rows.fnEncodeLastSpec) false w args) (Rows.fnEncodeLastSpec.post enc Tryd.prog Tryd.f17 false true false false) := by
  refine returnsInHanded_of_change_and (C := Tryd.checked) (X := fun w _ => laidMetH Tryd.prog laid2 w) (fun _ _ _ hh h => h.of_heap hh) own started (by kernel_rfl) Tryd.func17
    (ChangeSpec.witness_shaped (enc := enc) (C := Tryd.checked) (os := os) (X := fun w _ => laidMetH Tryd.prog laid2 w) false (World.laidAll Tryd.prog os laid2) #[.int .i32 0, .int .i32 0] 8 rfl (World.shaped_of_ZipB (by kernel_rfl) (by kernel_rfl)) (by kernel_rfl) (by kernel_rfl) (by kernel_rfl) (met os _)) ?_
  intro W base args ds gs before hval0 hW _ _ hL _
  have hval : ∀ (j : Nat) t v, Tryd.f17.params[j]? = some t → args[j]? = some v → Value.okWide Tryd.prog W .any base t v := hval0
  have hW' := hW
  obtain ⟨p, q, hA0, hV, rfl, hfz, hnd⟩ := hW
  have hA : DataW.TrodAll enc Tryd.prog W 0 (fun _ => true) true Tryd.f17.params.toList args.toList ds p := hA0
  rw [Tryd.params17] at hA hval
  obtain ⟨v0, vs0, d0, ds0, p0, q0, hargs, rfl, rfl, h0, r0⟩ := trodAll_cons hA
  obtain ⟨v1, vs1, d1, ds1, p1, q1, rfl, rfl, rfl, h1, r1⟩ := trodAll_cons r0
  obtain ⟨rfl, rfl, rfl⟩ := trodAll_nil r1
  obtain rfl : args = #[v0, v1] := by cases args; simp_all
  obtain ⟨a0, rfl, rfl, rfl, w0⟩ := open_int Tryd.underlying21 (hval 0 21 v0 rfl rfl) h0
  obtain ⟨a1, rfl, rfl, rfl, w1⟩ := open_int Tryd.underlying21 (hval 1 21 v1 rfl rfl) h1
  obtain ⟨dv0, dv1, rfl⟩ : ∃ x y, gs = [x, y] := by
    obtain ⟨_, _, _, _, x, _, _, _, _, _, y, _, hg, _⟩ := trodVars_two hV
    exact ⟨x, y, hg⟩
  have T : Tabs W := tabs_of_laid hL
  clear hA0 hval0 hL
  refine (fnEncodeLast_walk a0 a1 W T w0 w1).mono fun e W' ⟨he, bel⟩ => ?_
  subst he
  exact ⟨_, rfl, _, _, _, [], _, _, hW', trodAll_mk1 (shut_bool Tryd.underlying4 _), (trodAll_cons_mk (shut_int Tryd.underlying21 w0) (trodAll_cons_mk (shut_int Tryd.underlying21 w1) trodAll_mk0)), tables_stay bel hV, bel.frame _, fun h => by cases h⟩

theorem closed : joinedFacts Tryd.prog 17 Tryd.f17 Rows.fnEncodeLastSpec Rows.fnEncodeLastRow = true := by
  unfold joinedFacts
  rw [head_enter, head_lifts, head_make]
  kernel_rfl
theorem said : Rows.FnEncodeLastSaid :=
  OpenClaim.holds_of_wide 17 Tryd.f17 rfl rfl rfl rfl rfl rfl rfl ⟨rfl, rfl, rfl, rfl, rfl⟩ rfl rfl rfl rfl rfl (by kernel_rfl) Tryd.func17 closed
    (of_decide_eq_true (by kernel_rfl)) (by unfold Func.isWrapper; first | (rw [if_pos (by decide +kernel)]; kernel_rfl) | (rw [if_neg (by decide +kernel)]; exact ⟨rfl, rfl⟩))
    (fun os started H enc _ => by rw [OpenClaim.pre_eq_preRow]; exact lifted os started H enc)

theorem plain (f : FuncId) (fn : Func) (hf : Tryd.pinned.checked.prog.funcNamed Rows.fnEncodeLastRow.func = some f) (hfn : Tryd.pinned.checked.prog.funcs[f]? = some fn) :
    false = Tryd.pinned.checked.prog.looks [] ∧ ∀ (j : Nat) t, fn.params[j]? = some t → Tryd.pinned.checked.prog.wantsStandIn t = false := by
  obtain rfl : f = 17 := Option.some.inj ((show Tryd.prog.funcNamed Rows.fnEncodeLastRow.func = some 17 by kernel_rfl).symm.trans hf) |>.symm
  obtain rfl : fn = Tryd.f17 := (Option.some.inj (Tryd.func17.symm.trans hfn)).symm
  refine ⟨by kernel_rfl, fun j t ht => ?_⟩
  rw [Tryd.params17] at ht
  have hm : t ∈ [21, 21] := by simpa using Array.mem_of_getElem? ht
  have hall : ([21, 21].all fun u => !Tryd.prog.wantsStandIn u) = true := by kernel_rfl
  exact (show Tryd.prog.wantsStandIn t = false by simpa using List.all_eq_true.1 hall t hm)

theorem proved : Rows.FnEncodeLastCardSaid :=
  Claim7.holds_tied_plain_at .later [] _ _ _ _ said (fun _ h => by cases h) (by kernel_rfl) (fun _ h => by cases h) fnEncodeLast_row_tie rfl ⟨rfl, rfl⟩ head_main rfl plain (by kernel_rfl)
#print axioms proved
end Go.Proofs.YtincmkjffohekaaDoor.fnEncodeLast
