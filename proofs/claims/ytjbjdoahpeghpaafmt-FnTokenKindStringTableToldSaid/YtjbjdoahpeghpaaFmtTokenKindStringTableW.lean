/-
  The walk of FnTokenKindStringTable: it returns true, whatever k; the table is what the row lists.
-/
import Derived.Test.YtjbjdoahpeghpaaFmtKindWalks
import Derived.Test.YtjbjdoahpeghpaaFmtTab
namespace Go.Proofs.YtjbjdoahpeghpaaFmt.fnTokenKindStringTable
open Go Go.ChangeShapes Go.WideShapes Go.RowKit

theorem gTab : Tryf.prog.globalNamed "github.com/google/go-jsonnet/internal/parser.tokenKindStrings" = some 2 := by kernel_rfl
theorem tTab : (Tryf.prog.globals[2]?).map (·.type) = some 32 := by kernel_rfl
theorem cells9 : Tryf.prog.cellsOf 9 = 1 := by kernel_rfl

theorem of_laid {W : World} (h : laidMetH Tryf.prog Rows.fnTokenKindStringTableRow.laid W) :
    ∃ b off cap, W.cell? ⟨2, 0, none⟩ = some (.slice (some ⟨b, off, none⟩) 37 cap) ∧ 37 ≤ cap ∧ ∀ i, i < 37 → W.cell? ⟨b, off + i, none⟩ = some (.string (kindStr i)) := by
  rw [MakeChecks.laidMetH_plain _ _ _ (by kernel_rfl)] at h
  exact Tab.cells_of_laid (l := kindTab) gTab tTab Tryf.underlying32 Tryf.underlying9 cells9 (by decide) h

theorem walk0 (k : Int) (b off cap : Nat) (hcap : 37 ≤ cap) (w : World) (hg : w.cell? ⟨2, 0, none⟩ = some (.slice (some ⟨b, off, none⟩) 37 cap))
    (hc : ∀ i, i < 37 → w.cell? ⟨b, off + i, none⟩ = some (.string (kindStr i))) :
    Calls Tryf.prog 3 #[.int .i64 k] w fun e w' => e = .returned (.bool true) ∧ Below w.heap.size w w' := by
  by_cases h0 : k < 0
  · clear hg hc
    go_enter Tryf.func3, Tryf.ntmps3
    go_wp2
    go_ret
    exact ⟨rfl, Below.refl _ _⟩
  by_cases h1 : 36 < k
  · clear hg hc
    have h0' : decide (k < 0) = false := decide_eq_false (by omega)
    go_enter Tryf.func3, Tryf.ntmps3
    go_wp2
    go_ret
    exact ⟨rfl, Below.refl _ _⟩
  obtain ⟨n, rfl⟩ := Int.eq_ofNat_of_zero_le (show 0 ≤ k by omega)
  have hn : n < 37 := by omega
  have H := Lib.hid (hc n hn)
  clear hc
  have h0' : decide ((n : Int) < 0) = false := decide_eq_false (by omega)
  have h1' : decide ((36 : Int) < n) = false := decide_eq_false (by omega)
  go_enter Tryf.func3, Tryf.ntmps3
  go_wp2_with (first
    | (go_at_call 9; refine (zzTkString n hn b off cap hcap _ hg H.out).mono ?_; rintro e w' ⟨rfl, rfl⟩)
    | (go_at_call 10; refine (kindName n hn _).mono ?_; rintro e w' ⟨rfl, rfl⟩))
  go_ret
  exact ⟨by simp, Below.refl _ _⟩

theorem walk (k : Int) (w : World) (_ : (Lit.int .i64 k).wf = true) (hL : laidMetH Tryf.prog Rows.fnTokenKindStringTableRow.laid w) :
    Calls Tryf.prog 3 #[.int .i64 k] w fun e w' => e = .returned (.bool true) ∧ Below w.heap.size w w' := by
  obtain ⟨b, off, cap, hg, hcap, hc⟩ := of_laid hL
  exact walk0 k b off cap hcap w hg hc

end Go.Proofs.YtjbjdoahpeghpaaFmt.fnTokenKindStringTable
