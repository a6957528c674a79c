/-
  zzDigit.
-/
import Derived.Test.YtfcijponbeainaaFmtBsrcA
namespace Go.Proofs.YtfcijponbeainaaFmt
open Go Go.RowKit Go.Shelf

def dgz (b : Int) : Bool := decide (48 ≤ b) && decide (b ≤ 57)
theorem dgz_t {b : Int} : dgz b = true ↔ (48 ≤ b ∧ b ≤ 57) := by unfold dgz; simp

theorem zzDigit (b : Int) (w : World) : Calls Tryf.prog 6 #[.int .u8 b] w fun e w' => e = .returned (.bool (dgz b)) ∧ w = w' := by
  by_cases h1 : 48 ≤ b
  · by_cases h2 : b ≤ 57
    · have e3 : dgz b = true := dgz_t.2 ⟨h1, h2⟩
      rw [e3]
      clear e3
      go_enter Tryf.func6, Tryf.ntmps6
      go_wp2
      go_ret
      exact ⟨rfl, rfl⟩
    · have e3 : dgz b = false := by unfold dgz; simp; omega
      rw [e3]
      have b2 : decide (b ≤ 57) = false := decide_eq_false h2
      clear e3 h2
      go_enter Tryf.func6, Tryf.ntmps6
      go_wp2
      go_ret
      exact ⟨rfl, rfl⟩
  · have e3 : dgz b = false := by unfold dgz; simp; omega
    rw [e3]
    have b2 : decide (48 ≤ b) = false := decide_eq_false h1
    clear e3 h1
    go_enter Tryf.func6, Tryf.ntmps6
    go_wp2
    go_ret
    exact ⟨rfl, rfl⟩

end Go.Proofs.YtfcijponbeainaaFmt
