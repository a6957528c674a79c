/-
  The walk of FnCloneDesugaredFieldSpec, from the arguments as they come.
-/
import Derived.Test.YtgmmbimbbkbjfaaFmtDfSpecW
namespace Go.Proofs.YtgmmbimbbkbjfaaFmt.fnCloneDesugaredFieldSpec
open Go Go.RowKit

set_option maxRecDepth 100000 in
theorem walk (b1 : Bool) (name : ByteArray) (kd : Int) (b2 : Bool) (id : ByteArray) (hd : Int) (b3 : Bool) (ln cl : Int) (w : World) (hs : name.size ≤ maxLen) (_ : (Lit.int .i64 kd).wf = true) (hs2 : id.size ≤ maxLen) (_ : (Lit.int .i64 hd).wf = true) (_ : (Lit.int .i64 ln).wf = true) (_ : (Lit.int .i64 cl).wf = true) :
    Calls Tryf.prog 3 #[.bool b1, .string name, .int .i64 kd, .bool b2, .string id, .int .i64 hd, .bool b3, .int .i64 ln, .int .i64 cl] w fun e w' => e = .returned (.bool true) ∧ Below w.heap.size w w' := by
  by_cases hz : 1048576 < name.size + id.size
  · go_enter Tryf.func3, Tryf.ntmps3
    go_wp2_with (go_at_call 8; refine (bytes_no b1 b2 b3 name id kd hd ln cl _ hs hs2 hz).mono ?_; rintro e w' ⟨rfl, rfl⟩)
    go_ret
    exact ⟨rfl, Below.refl _ _⟩
  have hz' : name.size + id.size ≤ 1048576 := by omega
  cases b1 <;> cases b2
  · exact walk_ff b3 name id kd hd ln cl w hz'
  · exact walk_ft b3 name id kd hd ln cl w hz'
  · exact walk_tf b3 name id kd hd ln cl w hz'
  · exact walk_tt b3 name id kd hd ln cl w hz'

end Go.Proofs.YtgmmbimbbkbjfaaFmt.fnCloneDesugaredFieldSpec
