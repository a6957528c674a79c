/-
  The walks of the token kinds' names: tokenKind.String hands back the table's string; zzKindName the same; the keyword look-up.
-/
import Derived.Test.YtjbjdoahpeghpabFmtRows
import Derived.WalkKit
import Derived.WalkSpells
import Derived.Lib.Hide
namespace Go.Proofs.YtjbjdoahpeghpabFmt
open Go Go.RowKit

def kindTab : List (List UInt8) := [[34, 123, 34], [34, 125, 34], [34, 91, 34], [34, 93, 34], [34, 44, 34], [34, 36, 34], [34, 46, 34], [34, 40, 34], [34, 41, 34], [34, 59, 34], [73, 68, 69, 78, 84, 73, 70, 73, 69, 82], [78, 85, 77, 66, 69, 82], [79, 80, 69, 82, 65, 84, 79, 82], [83, 84, 82, 73, 78, 71, 95, 66, 76, 79, 67, 75], [83, 84, 82, 73, 78, 71, 95, 68, 79, 85, 66, 76, 69], [83, 84, 82, 73, 78, 71, 95, 83, 73, 78, 71, 76, 69], [86, 69, 82, 66, 65, 84, 73, 77, 95, 83, 84, 82, 73, 78, 71, 95, 68, 79, 85, 66, 76, 69], [86, 69, 82, 66, 65, 84, 73, 77, 95, 83, 84, 82, 73, 78, 71, 95, 83, 73, 78, 71, 76, 69], [97, 115, 115, 101, 114, 116], [101, 108, 115, 101], [101, 114, 114, 111, 114], [102, 97, 108, 115, 101], [102, 111, 114], [102, 117, 110, 99, 116, 105, 111, 110], [105, 102], [105, 109, 112, 111, 114, 116], [105, 109, 112, 111, 114, 116, 115, 116, 114], [105, 109, 112, 111, 114, 116, 98, 105, 110], [105, 110], [108, 111, 99, 97, 108], [110, 117, 108, 108], [115, 101, 108, 102], [115, 117, 112, 101, 114], [116, 97, 105, 108, 115, 116, 114, 105, 99, 116], [116, 104, 101, 110], [116, 114, 117, 101], [101, 110, 100, 32, 111, 102, 32, 102, 105, 108, 101]]

def kindStr (k : Nat) : ByteArray := ⟨(kindTab.getD k []).toArray⟩

/-- (tokenKind).String inside the table. -/
theorem tkString (k : Nat) (hk : k < 37) (b off cap : Nat) (_hcap : 37 ≤ cap) (w : World) (hg : w.cell? ⟨1, 0, none⟩ = some (.slice (some ⟨b, off, none⟩) 37 cap))
    (hc : w.cell? ⟨b, off + k, none⟩ = some (.string (kindStr k))) :
    Calls Tryf.prog 19 #[.int .i64 k] w fun e w' => e = .returned (.string (kindStr k)) ∧ w = w' := by
  have h1 : decide ((k : Int) < 0) = false := decide_eq_false (by omega)
  have h2 : decide ((37 : Int) ≤ k) = false := decide_eq_false (by omega)
  go_enter Tryf.func19, Tryf.ntmps19
  go_wp2
  go_ret
  exact ⟨rfl, rfl⟩


/-- zzKindName. -/
theorem kindName (k : Nat) (hk : k < 37) (w : World) : Calls Tryf.prog 8 #[.int .i64 k] w fun e w' => e = .returned (.string (kindStr k)) ∧ w = w' := by
  match k, hk with
  | 0, _ =>
    go_enter Tryf.func8, Tryf.ntmps8
    go_wp2
    go_ret
    exact ⟨rfl, rfl⟩
  | 1, _ =>
    go_enter Tryf.func8, Tryf.ntmps8
    go_wp2
    go_ret
    exact ⟨rfl, rfl⟩
  | 2, _ =>
    go_enter Tryf.func8, Tryf.ntmps8
    go_wp2
    go_ret
    exact ⟨rfl, rfl⟩
  | 3, _ =>
    go_enter Tryf.func8, Tryf.ntmps8
    go_wp2
    go_ret
    exact ⟨rfl, rfl⟩
  | 4, _ =>
    go_enter Tryf.func8, Tryf.ntmps8
    go_wp2
    go_ret
    exact ⟨rfl, rfl⟩
  | 5, _ =>
    go_enter Tryf.func8, Tryf.ntmps8
    go_wp2
    go_ret
    exact ⟨rfl, rfl⟩
  | 6, _ =>
    go_enter Tryf.func8, Tryf.ntmps8
    go_wp2
    go_ret
    exact ⟨rfl, rfl⟩
  | 7, _ =>
    go_enter Tryf.func8, Tryf.ntmps8
    go_wp2
    go_ret
    exact ⟨rfl, rfl⟩
  | 8, _ =>
    go_enter Tryf.func8, Tryf.ntmps8
    go_wp2
    go_ret
    exact ⟨rfl, rfl⟩
  | 9, _ =>
    go_enter Tryf.func8, Tryf.ntmps8
    go_wp2
    go_ret
    exact ⟨rfl, rfl⟩
  | 10, _ =>
    go_enter Tryf.func8, Tryf.ntmps8
    go_wp2
    go_ret
    exact ⟨rfl, rfl⟩
  | 11, _ =>
    go_enter Tryf.func8, Tryf.ntmps8
    go_wp2
    go_ret
    exact ⟨rfl, rfl⟩
  | 12, _ =>
    go_enter Tryf.func8, Tryf.ntmps8
    go_wp2
    go_ret
    exact ⟨rfl, rfl⟩
  | 13, _ =>
    go_enter Tryf.func8, Tryf.ntmps8
    go_wp2
    go_ret
    exact ⟨rfl, rfl⟩
  | 14, _ =>
    go_enter Tryf.func8, Tryf.ntmps8
    go_wp2
    go_ret
    exact ⟨rfl, rfl⟩
  | 15, _ =>
    go_enter Tryf.func8, Tryf.ntmps8
    go_wp2
    go_ret
    exact ⟨rfl, rfl⟩
  | 16, _ =>
    go_enter Tryf.func8, Tryf.ntmps8
    go_wp2
    go_ret
    exact ⟨rfl, rfl⟩
  | 17, _ =>
    go_enter Tryf.func8, Tryf.ntmps8
    go_wp2
    go_ret
    exact ⟨rfl, rfl⟩
  | 18, _ =>
    go_enter Tryf.func8, Tryf.ntmps8
    go_wp2
    go_ret
    exact ⟨rfl, rfl⟩
  | 19, _ =>
    go_enter Tryf.func8, Tryf.ntmps8
    go_wp2
    go_ret
    exact ⟨rfl, rfl⟩
  | 20, _ =>
    go_enter Tryf.func8, Tryf.ntmps8
    go_wp2
    go_ret
    exact ⟨rfl, rfl⟩
  | 21, _ =>
    go_enter Tryf.func8, Tryf.ntmps8
    go_wp2
    go_ret
    exact ⟨rfl, rfl⟩
  | 22, _ =>
    go_enter Tryf.func8, Tryf.ntmps8
    go_wp2
    go_ret
    exact ⟨rfl, rfl⟩
  | 23, _ =>
    go_enter Tryf.func8, Tryf.ntmps8
    go_wp2
    go_ret
    exact ⟨rfl, rfl⟩
  | 24, _ =>
    go_enter Tryf.func8, Tryf.ntmps8
    go_wp2
    go_ret
    exact ⟨rfl, rfl⟩
  | 25, _ =>
    go_enter Tryf.func8, Tryf.ntmps8
    go_wp2
    go_ret
    exact ⟨rfl, rfl⟩
  | 26, _ =>
    go_enter Tryf.func8, Tryf.ntmps8
    go_wp2
    go_ret
    exact ⟨rfl, rfl⟩
  | 27, _ =>
    go_enter Tryf.func8, Tryf.ntmps8
    go_wp2
    go_ret
    exact ⟨rfl, rfl⟩
  | 28, _ =>
    go_enter Tryf.func8, Tryf.ntmps8
    go_wp2
    go_ret
    exact ⟨rfl, rfl⟩
  | 29, _ =>
    go_enter Tryf.func8, Tryf.ntmps8
    go_wp2
    go_ret
    exact ⟨rfl, rfl⟩
  | 30, _ =>
    go_enter Tryf.func8, Tryf.ntmps8
    go_wp2
    go_ret
    exact ⟨rfl, rfl⟩
  | 31, _ =>
    go_enter Tryf.func8, Tryf.ntmps8
    go_wp2
    go_ret
    exact ⟨rfl, rfl⟩
  | 32, _ =>
    go_enter Tryf.func8, Tryf.ntmps8
    go_wp2
    go_ret
    exact ⟨rfl, rfl⟩
  | 33, _ =>
    go_enter Tryf.func8, Tryf.ntmps8
    go_wp2
    go_ret
    exact ⟨rfl, rfl⟩
  | 34, _ =>
    go_enter Tryf.func8, Tryf.ntmps8
    go_wp2
    go_ret
    exact ⟨rfl, rfl⟩
  | 35, _ =>
    go_enter Tryf.func8, Tryf.ntmps8
    go_wp2
    go_ret
    exact ⟨rfl, rfl⟩
  | 36, _ =>
    go_enter Tryf.func8, Tryf.ntmps8
    go_wp2
    go_ret
    exact ⟨rfl, rfl⟩
  | n + 37, h => exact absurd h (by omega)

end Go.Proofs.YtjbjdoahpeghpabFmt
