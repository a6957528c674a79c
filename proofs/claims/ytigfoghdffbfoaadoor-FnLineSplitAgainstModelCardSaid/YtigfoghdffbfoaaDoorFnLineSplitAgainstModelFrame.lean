/-
  Proved: for every input, FnLineSplitAgainstModel returns true and leaves its arguments as they were; the listed package-level variables hold what the program's text lays in them.
-/
import Derived.Test.YtigfoghdffbfoaaDoorCards
import Derived.Test.YtigfoghdffbfoaaDoorTie
import Derived.Test.YtigfoghdffbfoaaDoorLsmW
import Derived.Test.YtigfoghdffbfoaaDoorFrame
import Derived.Stop.JoinedTold
import Derived.SevenToldRow
import Derived.SevenTiedAt
import Derived.Deep.DeepWitnessRef
import Derived.Deep.DeepWitnessRowRef
import Derived.Deep.DeepHandedRow
import Derived.LaidMore
import Derived.LaidOnce
import Derived.SizedLaws
import Derived.Lib.LaidU8
namespace Go.Proofs.YtigfoghdffbfoaaDoor.fnLineSplitAgainstModel
open Go Go.ChangeShapes Go.WideShapes Go.ChangeAt Go.RowKit
open Go.ChangeMaps (open_string shut_string)
open Go.Extern.Stop Go.Stop Go.Extern

theorem own : ownKnob Tryd.prog.godebug = none := by kernel_rfl
theorem laidOut : laidOutB Tryd.prog = true := by kernel_rfl
theorem laid_met (os : Os) (args : Array Value) : laidMetH Tryd.prog Rows.fnLineSplitAgainstModelRow.laid ((World.doorLaid Tryd.prog 400 os).forCall (fun _ _ => 0) ⟨#[], args, []⟩).memory :=
  laidMetH_of_parts3 (fuel := 8) (laidMet_of_run' 8 (by kernel_rfl) (by kernel_rfl)) (by kernel_rfl) (by kernel_rfl)

set_option maxRecDepth 100000 in
theorem lifted (os : Os) (started : os.Started) (H : Type) (enc : TypeId × Value → H) (F : Stop.Interp) :
    ReturnsInHanded {} Tryd.checked os 4 .any ((OpenSpec.ofChange Rows.fnLineSplitAgainstModelSpec).preRow enc Tryd.prog Tryd.f4 Rows.fnLineSplitAgainstModelRow.domain false Rows.fnLineSplitAgainstModelRow.laid) (((OpenSpec.ofChange Rows.fnLineSplitAgainstModelSpec).at F).post enc Tryd.prog Tryd.f4 false true false false) := by
  refine returnsInHanded_of_row (C := Tryd.checked) (s := OpenSpec.ofChange Rows.fnLineSplitAgainstModelSpec) own started (by kernel_rfl) Tryd.func4
    (witness_row_atRef (enc := enc) (C := Tryd.checked) false (World.doorLaid Tryd.prog 400 os) #[.string ⟨#[]⟩, .int .i64 0] rfl (by kernel_rfl) (by kernel_rfl) (by kernel_rfl)
      (OpenSpec.preRow_of_B rfl 8 (by kernel_rfl) (by kernel_rfl) (laid_met os _))) ?_
  intro W base args ds gs before hval0 hW _ _ _ hL _ _
  have hval : ∀ (j : Nat) t v, Tryd.f4.params[j]? = some t → args[j]? = some v → Value.okWide Tryd.prog W .any base t v := hval0
  have hW' : DataW.Whole enc Tryd.prog Tryd.f4.params.toList Rows.fnLineSplitAgainstModelSpec.vars false W args.toList ds gs before := hW
  obtain ⟨p, q, hA0, hV0, _, _, _⟩ := hW
  have hA : DataW.TrodAll enc Tryd.prog W 0 (fun _ => true) true Tryd.f4.params.toList args.toList ds p := hA0
  have hV : DataW.TrodVars enc Tryd.prog W (fun _ => true) Rows.fnLineSplitAgainstModelSpec.vars gs q := hV0
  rw [Tryd.params4] at hA hval
  obtain ⟨v0, vs0, d0, ds0, p0, q0, hargs, rfl, _, h0, r0⟩ := trodAll_cons hA
  obtain ⟨v1, vs1, d1, ds1, p1, q1, rfl, rfl, _, h1, r1⟩ := trodAll_cons r0
  obtain ⟨rfl, rfl, _⟩ := trodAll_nil r1
  obtain rfl : args = #[v0, v1] := by cases args; simp_all
  obtain ⟨rfl, _⟩ := trodVars_none hV
  obtain ⟨a0, rfl, rfl, _, w0⟩ := open_string Tryd.underlying9 (hval 0 9 v0 rfl rfl) h0
  obtain ⟨a1, rfl, rfl, _, w1⟩ := open_int Tryd.underlying3 (hval 1 3 v1 rfl rfl) h1
  refine (walk a0 a1 W w0 w1).mono fun e W' ⟨he, hb⟩ => ?_
  subst he
  exact ⟨_, rfl, Frame.post_true laidOut (by kernel_rfl) (by kernel_rfl) (by kernel_rfl) Tryd.underlying4 hW' rfl hb⟩

theorem said : Rows.fnLineSplitAgainstModelRow.holds Tryd.pinned (OpenSpec.ofChange Rows.fnLineSplitAgainstModelSpec) :=
  OpenClaim.holds_of_cond 4 Tryd.f4 rfl rfl rfl rfl rfl rfl rfl ⟨rfl, rfl, rfl, rfl, rfl⟩ rfl rfl rfl rfl rfl (by kernel_rfl) Tryd.func4 (by kernel_rfl)
    (of_decide_eq_true (by kernel_rfl)) (by unfold Func.isWrapper; first | (rw [if_pos (by decide +kernel)]; kernel_rfl) | (rw [if_neg (by decide +kernel)]; exact ⟨rfl, rfl⟩))
    (fun os started H enc _ F => by rw [OpenClaim.pre_eq_preRow]; exact lifted os started H enc F)

theorem plain (f : FuncId) (fn : Func) (hf : Tryd.pinned.checked.prog.funcNamed "github.com/google/go-jsonnet/n008_68.FnLineSplitAgainstModel" = some f) (hfn : Tryd.pinned.checked.prog.funcs[f]? = some fn) :
    false = Tryd.pinned.checked.prog.looks [] ∧ ∀ (j : Nat) t, fn.params[j]? = some t → Tryd.pinned.checked.prog.wantsStandIn t = false := by
  obtain rfl : f = 4 := Option.some.inj ((show Tryd.prog.funcNamed "github.com/google/go-jsonnet/n008_68.FnLineSplitAgainstModel" = some 4 by kernel_rfl).symm.trans hf) |>.symm
  obtain rfl : fn = Tryd.f4 := (Option.some.inj (Tryd.func4.symm.trans hfn)).symm
  refine ⟨by kernel_rfl, fun j t ht => ?_⟩
  rw [Tryd.params4] at ht
  have hm : t ∈ [9, 3] := by simpa using Array.mem_of_getElem? ht
  have hall : ([9, 3].all fun u => !Tryd.prog.wantsStandIn u) = true := by kernel_rfl
  exact (show Tryd.prog.wantsStandIn t = false by simpa using List.all_eq_true.1 hall t hm)

theorem proved : Rows.FnLineSplitAgainstModelCardSaid :=
  Claim7.holds_tied_plain_at .later [] _ _ _ _ said (fun _ h => by cases h) (by kernel_rfl) (fun _ h => by cases h) fnLineSplitAgainstModel_row_tie rfl ⟨rfl, rfl⟩ (by kernel_rfl) rfl plain (by kernel_rfl)

end Go.Proofs.YtigfoghdffbfoaaDoor.fnLineSplitAgainstModel
