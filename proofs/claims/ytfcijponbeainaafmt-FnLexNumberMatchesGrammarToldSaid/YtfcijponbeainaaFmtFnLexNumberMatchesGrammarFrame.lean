/-
  Proved: for every input, FnLexNumberMatchesGrammar returns true and leaves its arguments as they were; the listed package-level variables hold what the program's text lays in them; fmt's texts told.
-/
import Derived.Test.YtfcijponbeainaaFmtCards
import Derived.Test.YtfcijponbeainaaFmtTie
import Derived.Test.YtfcijponbeainaaFmtNumV
import Derived.Test.YtfcijponbeainaaFmtFrame
import Derived.Stop.JoinedTold
import Derived.SevenToldRow
import Derived.SevenTiedAt
import Derived.Deep.DeepWitnessRef
import Derived.Deep.DeepWitnessRowRef
import Derived.Deep.DeepHandedRow
import Derived.LaidMore
import Derived.LaidOnce
import Derived.SizedLaws
import Derived.Lib.LaidU8
import Derived.Lay
import Derived.MakeChecks
namespace Go.Proofs.YtfcijponbeainaaFmt.fnLexNumberMatchesGrammar
open Go Go.ChangeShapes Go.WideShapes Go.ChangeAt Go.RowKit
open Go.ChangeMaps (open_string shut_string)
open Go.Extern.Stop Go.Stop Go.Extern

theorem own : ownKnob Tryf.prog.godebug = none := by kernel_rfl
theorem laidOut : laidOutB Tryf.prog = true := by kernel_rfl
theorem laid_met (os : Os) (args : Array Value) : laidMetH Tryf.prog Rows.fnLexNumberMatchesGrammarRow.laid ((World.laidAll Tryf.prog os Rows.fnLexNumberMatchesGrammarRow.laid).forCall (fun _ _ => 0) ⟨#[], args, []⟩).memory := by
  rw [MakeChecks.laidMetH_plain _ _ _ (by kernel_rfl)]
  exact laidMet_laidAll _ (by kernel_rfl) (by kernel_rfl)

set_option maxRecDepth 100000 in
theorem lifted (os : Os) (started : os.Started) (H : Type) (enc : TypeId × Value → H) :
    ReturnsInTold none {} Tryf.checked os 3 .any Input.okWide ((OpenSpec.ofChange Rows.fnLexNumberMatchesGrammarSpec).preRow enc Tryf.prog Tryf.f3 Rows.fnLexNumberMatchesGrammarRow.domain false Rows.fnLexNumberMatchesGrammarRow.laid)
      (fun F => ((OpenSpec.ofChange Rows.fnLexNumberMatchesGrammarSpec).at F).post enc Tryf.prog Tryf.f3 false true false false) (aloneAtReturn Tryf.prog) nothingAlways := by
  refine returnsInTold_of_row (C := Tryf.checked) (s := OpenSpec.ofChange Rows.fnLexNumberMatchesGrammarSpec) (by kernel_rfl) own started (by kernel_rfl) Tryf.func3
    (OpenSpec.witness_stopped_atRef (enc := enc) (C := Tryf.checked) false (World.laidAll Tryf.prog os Rows.fnLexNumberMatchesGrammarRow.laid) #[.string ⟨#[]⟩] (World.laidAll_os _ _ _) (by kernel_rfl) (by kernel_rfl) (by kernel_rfl)
      (OpenSpec.preRow_of_B rfl 8 (by kernel_rfl) (by kernel_rfl) (laid_met os _))) ?_
  intro F W base args ds gs before _ hF hval0 hW _ _ _ hL _
  have hval : ∀ (j : Nat) t v, Tryf.f3.params[j]? = some t → args[j]? = some v → Value.okWide Tryf.prog W .any base t v := hval0
  have hW' : DataW.Whole enc Tryf.prog Tryf.f3.params.toList Rows.fnLexNumberMatchesGrammarSpec.vars false W args.toList ds gs before := hW
  obtain ⟨p, q, hA0, hV0, _, _, _⟩ := hW
  have hA : DataW.TrodAll enc Tryf.prog W 0 (fun _ => true) true Tryf.f3.params.toList args.toList ds p := hA0
  have hV : DataW.TrodVars enc Tryf.prog W (fun _ => true) Rows.fnLexNumberMatchesGrammarSpec.vars gs q := hV0
  rw [Tryf.params3] at hA hval
  obtain ⟨v0, vs0, d0, ds0, p0, q0, hargs, rfl, _, h0, r0⟩ := trodAll_cons hA
  obtain ⟨rfl, rfl, _⟩ := trodAll_nil r0
  obtain rfl : args = #[v0] := by cases args; simp_all
  obtain ⟨rfl, _⟩ := trodVars_none hV
  obtain ⟨a0, rfl, rfl, _, w0⟩ := open_string Tryf.underlying9 (hval 0 9 v0 rfl rfl) h0
  refine (walk F.told a0 W hF w0 hL).mono fun e W' ⟨he, hb⟩ => ?_
  subst he
  exact ⟨_, rfl, Frame.post_true laidOut (by kernel_rfl) (by kernel_rfl) (by kernel_rfl) Tryf.underlying4 hW' rfl hb⟩

theorem stops : Tryf.pinned.checked.prog.stops = Rows.fnLexNumberMatchesGrammarRow.stops := by kernel_rfl
theorem stopKnobs : Tryf.pinned.checked.prog.stopKnobs = [] := by kernel_rfl
theorem quiet (os : Os) : Stop.quiet Tryf.pinned.checked.prog os := by
  intro k hk
  rw [stopKnobs] at hk
  cases hk

theorem proved : Rows.FnLexNumberMatchesGrammarToldSaid :=
  Claim7.holds_of_told_tied_any_at .later 3 Tryf.f3 _ _ [] _ _ _ _ _ (by kernel_rfl) rfl rfl rfl laidOut (by kernel_rfl) rfl ⟨rfl, rfl, rfl, rfl, rfl, rfl, rfl⟩ rfl rfl (by kernel_rfl) (by kernel_rfl) Tryf.func3 (by kernel_rfl)
    (of_decide_eq_true (by kernel_rfl)) (by unfold Func.isWrapper; first | (rw [if_pos (by decide +kernel)]; kernel_rfl) | (rw [if_neg (by decide +kernel)]; exact ⟨rfl, rfl⟩)) stops.symm rfl stopKnobs.symm (by kernel_rfl)
    (by kernel_rfl) (by kernel_rfl) (by kernel_rfl) (by kernel_rfl) (by kernel_rfl) (by kernel_rfl) (by kernel_rfl) (by kernel_rfl) (by kernel_rfl) rfl (by kernel_rfl) rfl rfl
    rfl rfl
    rfl (by kernel_rfl) (by kernel_rfl) (by kernel_rfl) (by decide) (by kernel_rfl) fnLexNumberMatchesGrammar_row_tie
    (OpenClaim.moreEntering_of (by kernel_rfl) (by kernel_rfl) (by kernel_rfl) (by kernel_rfl) (by kernel_rfl) (by kernel_rfl) (by kernel_rfl) (by kernel_rfl) (by kernel_rfl) (by kernel_rfl))
    ⟨_, WideRow.started_initial, quiet _⟩
    (fun os started _ H enc _ => lifted os started H enc)

end Go.Proofs.YtfcijponbeainaaFmt.fnLexNumberMatchesGrammar
