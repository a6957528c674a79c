/-
  The walks of the binary operators: the table, FnBinaryOpStringTable, FnBinaryOpStringInjective.
-/
import Derived.Test.YtjbjdoahpeghpaaFmtRows
import Derived.WalkKit
import Derived.WalkSpells
import Derived.Lib.Hide
import Derived.Test.YtjbjdoahpeghpaaFmtTab
namespace Go.Proofs.YtjbjdoahpeghpaaFmt
open Go Go.RowKit Go.ChangeShapes Go.WideShapes

def bopTab : List (List UInt8) := [[42], [47], [37], [43], [45], [60, 60], [62, 62], [62], [62, 61], [60], [60, 61], [105, 110], [61, 61], [33, 61], [38], [94], [124], [38, 38], [124, 124]]
def bopStr (k : Nat) : ByteArray := ⟨(bopTab.getD k []).toArray⟩
def bopIn (w : World) (b off cap : Nat) : Prop := w.cell? ⟨1, 0, none⟩ = some (.slice (some ⟨b, off, none⟩) 19 cap) ∧ 19 ≤ cap ∧ ∀ i, i < 19 → w.cell? ⟨b, off + i, none⟩ = some (.string (bopStr i))

/-- String inside the table. -/
theorem bopString (k : Nat) (hk : k < 19) (b off cap : Nat) (w : World) (h : bopIn w b off cap) :
    Calls Tryf.prog 14 #[.int .i64 k] w fun e w' => e = .returned (.string (bopStr k)) ∧ w = w' := by
  obtain ⟨hg, hcap, hc0⟩ := h
  have hc := hc0 k hk
  clear hc0
  have h1 : decide ((k : Int) < 0) = false := decide_eq_false (by omega)
  have h2 : decide ((19 : Int) ≤ k) = false := decide_eq_false (by omega)
  go_enter Tryf.func14, Tryf.ntmps14
  go_wp2
  go_ret
  exact ⟨rfl, rfl⟩

theorem bop_g : Tryf.prog.globalNamed "github.com/google/go-jsonnet/ast.bopStrings" = some 1 := by kernel_rfl
theorem bop_t : (Tryf.prog.globals[1]?).map (·.type) = some 32 := by kernel_rfl
theorem bop_c : Tryf.prog.cellsOf 9 = 1 := by kernel_rfl
theorem bop_of_laid {W : World} (h : laidMetH Tryf.prog [("github.com/google/go-jsonnet/ast.bopStrings", Tab.strData bopTab)] W) : ∃ b off cap, bopIn W b off cap := by
  rw [MakeChecks.laidMetH_plain _ _ _ (by kernel_rfl)] at h
  exact Tab.cells_of_laid (l := bopTab) bop_g bop_t Tryf.underlying32 Tryf.underlying9 bop_c (by decide) h

theorem bop_ne : ∀ k : Nat, k < 19 → ¬ (bopStr k).toList = [] := by decide +kernel
theorem bopModel (k : Nat) (hk : k < 19) (w : World) : Calls Tryf.prog 13 #[.int .i64 k] w fun e w' => e = .returned (.string (bopStr k)) ∧ w = w' := by
  match k, hk with
  | 0, _ =>
    go_enter Tryf.func13, Tryf.ntmps13
    go_wp2
    go_ret
    exact ⟨rfl, rfl⟩
  | 1, _ =>
    go_enter Tryf.func13, Tryf.ntmps13
    go_wp2
    go_ret
    exact ⟨rfl, rfl⟩
  | 2, _ =>
    go_enter Tryf.func13, Tryf.ntmps13
    go_wp2
    go_ret
    exact ⟨rfl, rfl⟩
  | 3, _ =>
    go_enter Tryf.func13, Tryf.ntmps13
    go_wp2
    go_ret
    exact ⟨rfl, rfl⟩
  | 4, _ =>
    go_enter Tryf.func13, Tryf.ntmps13
    go_wp2
    go_ret
    exact ⟨rfl, rfl⟩
  | 5, _ =>
    go_enter Tryf.func13, Tryf.ntmps13
    go_wp2
    go_ret
    exact ⟨rfl, rfl⟩
  | 6, _ =>
    go_enter Tryf.func13, Tryf.ntmps13
    go_wp2
    go_ret
    exact ⟨rfl, rfl⟩
  | 7, _ =>
    go_enter Tryf.func13, Tryf.ntmps13
    go_wp2
    go_ret
    exact ⟨rfl, rfl⟩
  | 8, _ =>
    go_enter Tryf.func13, Tryf.ntmps13
    go_wp2
    go_ret
    exact ⟨rfl, rfl⟩
  | 9, _ =>
    go_enter Tryf.func13, Tryf.ntmps13
    go_wp2
    go_ret
    exact ⟨rfl, rfl⟩
  | 10, _ =>
    go_enter Tryf.func13, Tryf.ntmps13
    go_wp2
    go_ret
    exact ⟨rfl, rfl⟩
  | 11, _ =>
    go_enter Tryf.func13, Tryf.ntmps13
    go_wp2
    go_ret
    exact ⟨rfl, rfl⟩
  | 12, _ =>
    go_enter Tryf.func13, Tryf.ntmps13
    go_wp2
    go_ret
    exact ⟨rfl, rfl⟩
  | 13, _ =>
    go_enter Tryf.func13, Tryf.ntmps13
    go_wp2
    go_ret
    exact ⟨rfl, rfl⟩
  | 14, _ =>
    go_enter Tryf.func13, Tryf.ntmps13
    go_wp2
    go_ret
    exact ⟨rfl, rfl⟩
  | 15, _ =>
    go_enter Tryf.func13, Tryf.ntmps13
    go_wp2
    go_ret
    exact ⟨rfl, rfl⟩
  | 16, _ =>
    go_enter Tryf.func13, Tryf.ntmps13
    go_wp2
    go_ret
    exact ⟨rfl, rfl⟩
  | 17, _ =>
    go_enter Tryf.func13, Tryf.ntmps13
    go_wp2
    go_ret
    exact ⟨rfl, rfl⟩
  | 18, _ =>
    go_enter Tryf.func13, Tryf.ntmps13
    go_wp2
    go_ret
    exact ⟨rfl, rfl⟩
  | n + 19, h => exact absurd h (by omega)

namespace fnBinaryOpStringTable
theorem walk0 (k : Int) (b off cap : Nat) (w : World) (h : bopIn w b off cap) :
    Calls Tryf.prog 5 #[.int .i64 k] w fun e w' => e = .returned (.bool true) ∧ Below w.heap.size w w' := by
  by_cases h0 : k < 0
  · clear h
    go_enter Tryf.func5, Tryf.ntmps5
    go_wp2
    go_ret
    exact ⟨rfl, Below.refl _ _⟩
  by_cases h1 : 18 < k
  · clear h
    have h0' : decide (k < 0) = false := decide_eq_false (by omega)
    go_enter Tryf.func5, Tryf.ntmps5
    go_wp2
    go_ret
    exact ⟨rfl, Below.refl _ _⟩
  obtain ⟨n, rfl⟩ := Int.eq_ofNat_of_zero_le (show 0 ≤ k by omega)
  have hn : n < 19 := by omega
  have H := Lib.hid h
  clear h
  have h0' : decide ((n : Int) < 0) = false := decide_eq_false (by omega)
  have h1' : decide ((18 : Int) < n) = false := decide_eq_false (by omega)
  have hne : ¬ (bopStr n).toList = [] := bop_ne n hn
  have hne2 : (bopStr n).toList.isEmpty = false := by simpa using hne
  go_enter Tryf.func5, Tryf.ntmps5
  go_wp2_with (first
    | (go_at_call 14; refine (bopString n hn b off cap _ H.out).mono ?_; rintro e w' ⟨rfl, rfl⟩)
    | (go_at_call 13; refine (bopModel n hn _).mono ?_; rintro e w' ⟨rfl, rfl⟩))
  all_goals go_ret
  all_goals exact ⟨by simp, Below.refl _ _⟩
theorem walk (k : Int) (w : World) (_ : (Lit.int .i64 k).wf = true) (hL : laidMetH Tryf.prog Rows.fnBinaryOpStringTableRow.laid w) :
    Calls Tryf.prog 5 #[.int .i64 k] w fun e w' => e = .returned (.bool true) ∧ Below w.heap.size w w' := by
  obtain ⟨b, off, cap, h⟩ := bop_of_laid hL
  exact walk0 k b off cap w h
end fnBinaryOpStringTable

namespace fnBinaryOpStringInjective
theorem out (a b : Int) (w : World) (h : a < 0 ∨ 18 < a ∨ b < 0 ∨ 18 < b) :
    Calls Tryf.prog 8 #[.int .i64 a, .int .i64 b] w fun e w' => e = .returned (.bool true) ∧ Below w.heap.size w w' := by
  by_cases h0 : a < 0
  · clear h
    go_enter Tryf.func8, Tryf.ntmps8
    go_wp2
    go_ret
    exact ⟨rfl, Below.refl _ _⟩
  have h0' : decide (a < 0) = false := decide_eq_false (by omega)
  by_cases h1 : 18 < a
  · clear h
    go_enter Tryf.func8, Tryf.ntmps8
    go_wp2
    go_ret
    exact ⟨rfl, Below.refl _ _⟩
  have h1' : decide (18 < a) = false := decide_eq_false (by omega)
  by_cases h2 : b < 0
  · clear h
    go_enter Tryf.func8, Tryf.ntmps8
    go_wp2
    go_ret
    exact ⟨rfl, Below.refl _ _⟩
  have h2' : decide (b < 0) = false := decide_eq_false (by omega)
  have h3 : 18 < b := by omega
  clear h
  go_enter Tryf.func8, Tryf.ntmps8
  go_wp2
  go_ret
  exact ⟨rfl, Below.refl _ _⟩
theorem size_ok : ∀ k : Nat, k < 19 → (decide (((bopStr k).size : Int) < 1) = false ∧ decide ((2 : Int) < (bopStr k).size) = false) := by decide
theorem inj : ∀ x : Nat, x < 19 → ∀ y : Nat, y < 19 → (((x : Int) == (y : Int)) == ((bopStr x).toList == (bopStr y).toList)) = true := by decide +kernel
theorem inside (x y : Nat) (hx : x < 19) (hy : y < 19) (b off cap : Nat) (w : World) (h : bopIn w b off cap) :
    Calls Tryf.prog 8 #[.int .i64 x, .int .i64 y] w fun e w' => e = .returned (.bool true) ∧ Below w.heap.size w w' := by
  have H := Lib.hid h
  clear h
  have h0 : decide ((x : Int) < 0) = false := decide_eq_false (by omega)
  have h1 : decide ((18 : Int) < x) = false := decide_eq_false (by omega)
  have h2 : decide ((y : Int) < 0) = false := decide_eq_false (by omega)
  have h3 : decide ((18 : Int) < y) = false := decide_eq_false (by omega)
  obtain ⟨s1, s1'⟩ := size_ok x hx
  obtain ⟨s2, s2'⟩ := size_ok y hy
  have hi := inj x hx y hy
  generalize hsx : bopStr x = sx at s1 s1' hi
  generalize hsy : bopStr y = sy at s2 s2' hi
  have HX := Lib.hid hsx
  have HY := Lib.hid hsy
  clear hsx hsy
  go_enter Tryf.func8, Tryf.ntmps8
  go_wp2_with fail
  refine (bopString x hx b off cap _ H.out).mono ?_
  rintro e w' ⟨rfl, rfl⟩
  rw [HX.out]
  go_wp2_with fail
  refine (bopString y hy b off cap _ H.out).mono ?_
  rintro e w' ⟨rfl, rfl⟩
  rw [HY.out]
  go_wp2
  go_ret
  exact ⟨by simp, Below.refl _ _⟩

theorem walk (a b : Int) (w : World) (_ : (Lit.int .i64 a).wf = true) (_ : (Lit.int .i64 b).wf = true) (hL : laidMetH Tryf.prog Rows.fnBinaryOpStringInjectiveRow.laid w) :
    Calls Tryf.prog 8 #[.int .i64 a, .int .i64 b] w fun e w' => e = .returned (.bool true) ∧ Below w.heap.size w w' := by
  by_cases hin : a < 0 ∨ 18 < a ∨ b < 0 ∨ 18 < b
  · exact out a b w hin
  obtain ⟨x, rfl⟩ := Int.eq_ofNat_of_zero_le (show 0 ≤ a by omega)
  obtain ⟨y, rfl⟩ := Int.eq_ofNat_of_zero_le (show 0 ≤ b by omega)
  obtain ⟨b, off, cap, h⟩ := bop_of_laid hL
  exact inside x y (by omega) (by omega) b off cap w h
end fnBinaryOpStringInjective

end Go.Proofs.YtjbjdoahpeghpaaFmt
