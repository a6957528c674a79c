/-
  Proved: for every input, FnCloneForSpecFreshStructuralCopy returns true and leaves its arguments as they were; fmt's texts told.
-/
import Derived.Test.YtpcoeakcnmeblaaFmtCards
import Derived.Test.YtpcoeakcnmeblaaFmtFrQ
import Derived.Test.YtpcoeakcnmeblaaFmtFrame
import Derived.Stop.JoinedTold
import Derived.SevenToldRow
import Derived.SevenTiedAt
import Derived.Deep.DeepWitnessRef
import Derived.Deep.DeepWitnessRowRef
import Derived.Deep.DeepHandedRow
import Derived.LaidMore
import Derived.LaidOnce
import Derived.SizedLaws
import Derived.Lib.LaidU8
namespace Go.Proofs.YtpcoeakcnmeblaaFmt.fnCloneForSpecFreshStructuralCopy
open Go Go.ChangeShapes Go.WideShapes Go.ChangeAt Go.RowKit
open Go.ChangeMaps (open_string shut_string)
open Go.Extern.Stop Go.Stop Go.Extern

theorem own : ownKnob Tryf.prog.godebug = none := by kernel_rfl
theorem laidOut : laidOutB Tryf.prog = true := by kernel_rfl

set_option maxRecDepth 100000 in
theorem lifted (os : Os) (started : os.Started) (H : Type) (enc : TypeId × Value → H) :
    ReturnsInTold none {} Tryf.checked os 4 .any Input.okWide ((OpenSpec.ofChange Rows.fnCloneForSpecFreshStructuralCopySpec).preRow enc Tryf.prog Tryf.f4 Rows.fnCloneForSpecFreshStructuralCopyRow.domain false Rows.fnCloneForSpecFreshStructuralCopyRow.laid)
      (fun F => ((OpenSpec.ofChange Rows.fnCloneForSpecFreshStructuralCopySpec).at F).post enc Tryf.prog Tryf.f4 false true false false) (aloneAtReturn Tryf.prog) nothingAlways := by
  refine returnsInTold_of_row (C := Tryf.checked) (s := OpenSpec.ofChange Rows.fnCloneForSpecFreshStructuralCopySpec) (by kernel_rfl) own started (by kernel_rfl) Tryf.func4
    (OpenSpec.witness_stopped (enc := enc) (C := Tryf.checked) false ⟨#[], #[.slice none 0 0], []⟩ 8 (by kernel_rfl) (by kernel_rfl) (by kernel_rfl) rfl (by kernel_rfl) (by kernel_rfl)) ?_
  intro F W base args ds gs before _ _ hval0 hW _ _ _ hL _
  have hval : ∀ (j : Nat) t v, Tryf.f4.params[j]? = some t → args[j]? = some v → Value.okWide Tryf.prog W .any base t v := hval0
  have hW' : DataW.Whole enc Tryf.prog Tryf.f4.params.toList Rows.fnCloneForSpecFreshStructuralCopySpec.vars false W args.toList ds gs before := hW
  obtain ⟨p, q, hA0, hV0, _, _, _⟩ := hW
  have hA : DataW.TrodAll enc Tryf.prog W 0 (fun _ => true) true Tryf.f4.params.toList args.toList ds p := hA0
  have hV : DataW.TrodVars enc Tryf.prog W (fun _ => true) Rows.fnCloneForSpecFreshStructuralCopySpec.vars gs q := hV0
  rw [Tryf.params4] at hA hval
  obtain ⟨v0, vs0, d0, ds0, p0, q0, hargs, rfl, _, h0, r0⟩ := trodAll_cons hA
  obtain ⟨rfl, rfl, _⟩ := trodAll_nil r0
  obtain rfl : args = #[v0] := by cases args; simp_all
  obtain ⟨rfl, _⟩ := trodVars_none hV
  refine (walk v0 d0 p0 W (hval 0 22 v0 rfl rfl) h0).mono fun e W' ⟨he, hb⟩ => ?_
  subst he
  exact ⟨_, rfl, Frame.post_true laidOut (by kernel_rfl) (by kernel_rfl) (by kernel_rfl) Tryf.underlying4 hW' rfl hb⟩

theorem stops : Tryf.pinned.checked.prog.stops = Rows.fnCloneForSpecFreshStructuralCopyRow.stops := by kernel_rfl
theorem stopKnobs : Tryf.pinned.checked.prog.stopKnobs = [] := by kernel_rfl
theorem quiet (os : Os) : Stop.quiet Tryf.pinned.checked.prog os := by
  intro k hk
  rw [stopKnobs] at hk
  cases hk

theorem proved : Rows.FnCloneForSpecFreshStructuralCopyToldSaid :=
  Claim7.holds_of_told_any 4 Tryf.f4 _ _ [] _ _ _ (by kernel_rfl) rfl rfl rfl laidOut (by kernel_rfl) rfl ⟨rfl, rfl, rfl, rfl, rfl, rfl, rfl⟩ rfl rfl (by kernel_rfl) (by kernel_rfl) Tryf.func4 (by kernel_rfl)
    (of_decide_eq_true (by kernel_rfl)) (by unfold Func.isWrapper; first | (rw [if_pos (by decide +kernel)]; kernel_rfl) | (rw [if_neg (by decide +kernel)]; exact ⟨rfl, rfl⟩)) stops.symm rfl stopKnobs.symm (by kernel_rfl)
    (by kernel_rfl) (by kernel_rfl) (by kernel_rfl) (by kernel_rfl) (by kernel_rfl) (by kernel_rfl) (by kernel_rfl) (by kernel_rfl) (by kernel_rfl) rfl (by kernel_rfl) rfl rfl
    rfl rfl
    rfl (by kernel_rfl) (by kernel_rfl) (by kernel_rfl) (by decide) (by kernel_rfl)
    (OpenClaim.moreEntering_of (by kernel_rfl) (by kernel_rfl) (by kernel_rfl) (by kernel_rfl) (by kernel_rfl) (by kernel_rfl) (by kernel_rfl) (by kernel_rfl) (by kernel_rfl) (by kernel_rfl))
    ⟨_, WideRow.started_initial, quiet _⟩
    (fun os started _ H enc _ => lifted os started H enc)

end Go.Proofs.YtpcoeakcnmeblaaFmt.fnCloneForSpecFreshStructuralCopy
