/-
  The walks of the unary operators: the table, FnUnaryOpStringTable, FnUnaryOpStringInjectiveOneByte.
-/
import Derived.Test.YtjbjdoahpeghpaaFmtRows
import Derived.WalkKit
import Derived.WalkSpells
import Derived.Lib.Hide
import Derived.Test.YtjbjdoahpeghpaaFmtTab
namespace Go.Proofs.YtjbjdoahpeghpaaFmt
open Go Go.RowKit Go.ChangeShapes Go.WideShapes

def uopTab : List (List UInt8) := [[33], [126], [43], [45]]
def uopStr (k : Nat) : ByteArray := ⟨(uopTab.getD k []).toArray⟩
def uopIn (w : World) (b off cap : Nat) : Prop := w.cell? ⟨0, 0, none⟩ = some (.slice (some ⟨b, off, none⟩) 4 cap) ∧ 4 ≤ cap ∧ ∀ i, i < 4 → w.cell? ⟨b, off + i, none⟩ = some (.string (uopStr i))

/-- String inside the table. -/
theorem uopString (k : Nat) (hk : k < 4) (b off cap : Nat) (w : World) (h : uopIn w b off cap) :
    Calls Tryf.prog 11 #[.int .i64 k] w fun e w' => e = .returned (.string (uopStr k)) ∧ w = w' := by
  obtain ⟨hg, hcap, hc0⟩ := h
  have hc := hc0 k hk
  clear hc0
  have h1 : decide ((k : Int) < 0) = false := decide_eq_false (by omega)
  have h2 : decide ((4 : Int) ≤ k) = false := decide_eq_false (by omega)
  go_enter Tryf.func11, Tryf.ntmps11
  go_wp2
  go_ret
  exact ⟨rfl, rfl⟩

theorem uop_g : Tryf.prog.globalNamed "github.com/google/go-jsonnet/ast.uopStrings" = some 0 := by kernel_rfl
theorem uop_t : (Tryf.prog.globals[0]?).map (·.type) = some 32 := by kernel_rfl
theorem uop_c : Tryf.prog.cellsOf 9 = 1 := by kernel_rfl
theorem uop_of_laid {W : World} (h : laidMetH Tryf.prog [("github.com/google/go-jsonnet/ast.uopStrings", Tab.strData uopTab)] W) : ∃ b off cap, uopIn W b off cap := by
  rw [MakeChecks.laidMetH_plain _ _ _ (by kernel_rfl)] at h
  exact Tab.cells_of_laid (l := uopTab) uop_g uop_t Tryf.underlying32 Tryf.underlying9 uop_c (by decide) h

theorem uopModel (k : Nat) (hk : k < 4) (w : World) : Calls Tryf.prog 12 #[.int .i64 k] w fun e w' => e = .returned (.string (uopStr k)) ∧ w = w' := by
  match k, hk with
  | 0, _ =>
    go_enter Tryf.func12, Tryf.ntmps12
    go_wp2
    go_ret
    exact ⟨rfl, rfl⟩
  | 1, _ =>
    go_enter Tryf.func12, Tryf.ntmps12
    go_wp2
    go_ret
    exact ⟨rfl, rfl⟩
  | 2, _ =>
    go_enter Tryf.func12, Tryf.ntmps12
    go_wp2
    go_ret
    exact ⟨rfl, rfl⟩
  | 3, _ =>
    go_enter Tryf.func12, Tryf.ntmps12
    go_wp2
    go_ret
    exact ⟨rfl, rfl⟩
  | n + 4, h => exact absurd h (by omega)

namespace fnUnaryOpStringTable
theorem walk0 (k : Int) (b off cap : Nat) (w : World) (h : uopIn w b off cap) :
    Calls Tryf.prog 4 #[.int .i64 k] w fun e w' => e = .returned (.bool true) ∧ Below w.heap.size w w' := by
  by_cases h0 : k < 0
  · clear h
    go_enter Tryf.func4, Tryf.ntmps4
    go_wp2
    go_ret
    exact ⟨rfl, Below.refl _ _⟩
  by_cases h1 : 3 < k
  · clear h
    have h0' : decide (k < 0) = false := decide_eq_false (by omega)
    go_enter Tryf.func4, Tryf.ntmps4
    go_wp2
    go_ret
    exact ⟨rfl, Below.refl _ _⟩
  obtain ⟨n, rfl⟩ := Int.eq_ofNat_of_zero_le (show 0 ≤ k by omega)
  have hn : n < 4 := by omega
  have H := Lib.hid h
  clear h
  have h0' : decide ((n : Int) < 0) = false := decide_eq_false (by omega)
  have h1' : decide ((3 : Int) < n) = false := decide_eq_false (by omega)
  go_enter Tryf.func4, Tryf.ntmps4
  go_wp2_with (first
    | (go_at_call 11; refine (uopString n hn b off cap _ H.out).mono ?_; rintro e w' ⟨rfl, rfl⟩)
    | (go_at_call 12; refine (uopModel n hn _).mono ?_; rintro e w' ⟨rfl, rfl⟩))
  all_goals go_ret
  all_goals exact ⟨by simp, Below.refl _ _⟩
theorem walk (k : Int) (w : World) (_ : (Lit.int .i64 k).wf = true) (hL : laidMetH Tryf.prog Rows.fnUnaryOpStringTableRow.laid w) :
    Calls Tryf.prog 4 #[.int .i64 k] w fun e w' => e = .returned (.bool true) ∧ Below w.heap.size w w' := by
  obtain ⟨b, off, cap, h⟩ := uop_of_laid hL
  exact walk0 k b off cap w h
end fnUnaryOpStringTable

namespace fnUnaryOpStringInjectiveOneByte
theorem out (a b : Int) (w : World) (h : a < 0 ∨ 3 < a ∨ b < 0 ∨ 3 < b) :
    Calls Tryf.prog 7 #[.int .i64 a, .int .i64 b] w fun e w' => e = .returned (.bool true) ∧ Below w.heap.size w w' := by
  by_cases h0 : a < 0
  · clear h
    go_enter Tryf.func7, Tryf.ntmps7
    go_wp2
    go_ret
    exact ⟨rfl, Below.refl _ _⟩
  have h0' : decide (a < 0) = false := decide_eq_false (by omega)
  by_cases h1 : 3 < a
  · clear h
    go_enter Tryf.func7, Tryf.ntmps7
    go_wp2
    go_ret
    exact ⟨rfl, Below.refl _ _⟩
  have h1' : decide (3 < a) = false := decide_eq_false (by omega)
  by_cases h2 : b < 0
  · clear h
    go_enter Tryf.func7, Tryf.ntmps7
    go_wp2
    go_ret
    exact ⟨rfl, Below.refl _ _⟩
  have h2' : decide (b < 0) = false := decide_eq_false (by omega)
  have h3 : 3 < b := by omega
  clear h
  go_enter Tryf.func7, Tryf.ntmps7
  go_wp2
  go_ret
  exact ⟨rfl, Below.refl _ _⟩
theorem size_one : ∀ k : Nat, k < 4 → (uopStr k).size = 1 := by decide
theorem inj : ∀ x : Nat, x < 4 → ∀ y : Nat, y < 4 → (((uopStr x).toList == (uopStr y).toList) == ((x : Int) == (y : Int))) = true := by decide +kernel
theorem inside (x y : Nat) (hx : x < 4) (hy : y < 4) (b off cap : Nat) (w : World) (h : uopIn w b off cap) :
    Calls Tryf.prog 7 #[.int .i64 x, .int .i64 y] w fun e w' => e = .returned (.bool true) ∧ Below w.heap.size w w' := by
  have H := Lib.hid h
  clear h
  have h0 : decide ((x : Int) < 0) = false := decide_eq_false (by omega)
  have h1 : decide ((3 : Int) < x) = false := decide_eq_false (by omega)
  have h2 : decide ((y : Int) < 0) = false := decide_eq_false (by omega)
  have h3 : decide ((3 : Int) < y) = false := decide_eq_false (by omega)
  have s1 := size_one x hx
  have s2 := size_one y hy
  have hi := inj x hx y hy
  generalize hsx : uopStr x = sx at s1 hi
  generalize hsy : uopStr y = sy at s2 hi
  have HX := Lib.hid hsx
  have HY := Lib.hid hsy
  clear hsx hsy
  go_enter Tryf.func7, Tryf.ntmps7
  go_wp2_with fail
  refine (uopString x hx b off cap _ H.out).mono ?_
  rintro e w' ⟨rfl, rfl⟩
  rw [HX.out]
  go_wp2_with fail
  refine (uopString y hy b off cap _ H.out).mono ?_
  rintro e w' ⟨rfl, rfl⟩
  rw [HY.out]
  go_wp2
  go_ret
  exact ⟨by simp, Below.refl _ _⟩

theorem walk (a b : Int) (w : World) (_ : (Lit.int .i64 a).wf = true) (_ : (Lit.int .i64 b).wf = true) (hL : laidMetH Tryf.prog Rows.fnUnaryOpStringInjectiveOneByteRow.laid w) :
    Calls Tryf.prog 7 #[.int .i64 a, .int .i64 b] w fun e w' => e = .returned (.bool true) ∧ Below w.heap.size w w' := by
  by_cases hin : a < 0 ∨ 3 < a ∨ b < 0 ∨ 3 < b
  · exact out a b w hin
  obtain ⟨x, rfl⟩ := Int.eq_ofNat_of_zero_le (show 0 ≤ a by omega)
  obtain ⟨y, rfl⟩ := Int.eq_ofNat_of_zero_le (show 0 ≤ b by omega)
  obtain ⟨b, off, cap, h⟩ := uop_of_laid hL
  exact inside x y (by omega) (by omega) b off cap w h
end fnUnaryOpStringInjectiveOneByte

end Go.Proofs.YtjbjdoahpeghpaaFmt
