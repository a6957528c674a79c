/-
  n008_32: the model's small functions.
-/
import Derived.Test.YthohpccmleodpaaFmtLxP
import Derived.IntWalk
namespace Go.Proofs.YthohpccmleodpaaFmt
open Go Go.RowKit
namespace Lx

def dgI (c : Int) : Bool := decide (48 ≤ c) && decide (c ≤ 57)
set_option maxRecDepth 100000 in
theorem digitB (c : Nat) (w : World) : Calls Tryf.prog 8 #[.int .u8 c] w fun e w' => e = .returned (.bool (isD c)) ∧ w = w' := by
  have e : isD c = dgI (c : Int) := by
    unfold isD dgI
    have e1 : decide ((48 : Int) ≤ (c : Int)) = decide (48 ≤ c) := decide_eq_decide.2 (by omega)
    have e2 : decide ((c : Int) ≤ 57) = decide (c ≤ 57) := decide_eq_decide.2 (by omega)
    rw [e1, e2]
  rw [e]
  clear e
  obtain ⟨z, hz⟩ : ∃ z : Int, z = (c : Int) := ⟨_, rfl⟩
  rw [← hz]
  clear hz
  go_enter Tryf.func8, Tryf.ntmps8
  go_wp2
  all_goals go_ret
  all_goals exact ⟨by (first | (simp [dgI, *]; done) | (simp [dgI, *]; omega)), rfl⟩

def ltrI (c : Int) : Bool := (decide (97 ≤ c) && decide (c ≤ 122)) || (decide (65 ≤ c) && decide (c ≤ 90)) || (c == 95)
theorem ltrI_eq (c : Nat) : ltrI (c : Int) = idF (c : Int) := by
  cases h : idF (c : Int) with
  | true =>
    have := idF_cases h
    simp only [ltrI, Bool.or_eq_true, Bool.and_eq_true, decide_eq_true_eq, beq_iff_eq]
    omega
  | false =>
    cases h2 : ltrI (c : Int) with
    | false => rfl
    | true =>
      simp only [ltrI, Bool.or_eq_true, Bool.and_eq_true, decide_eq_true_eq, beq_iff_eq] at h2
      rw [idF_of (by omega)] at h
      cases h
set_option maxHeartbeats 1600000 in
set_option maxRecDepth 100000 in
theorem letterB (c : Nat) (w : World) : Calls Tryf.prog 9 #[.int .u8 c] w fun e w' => e = .returned (.bool (idF (c : Int))) ∧ w = w' := by
  rw [← ltrI_eq]
  obtain ⟨z, hz⟩ : ∃ z : Int, z = (c : Int) := ⟨_, rfl⟩
  rw [← hz]
  clear hz
  go_enter Tryf.func9, Tryf.ntmps9
  go_wp2
  all_goals go_ret
  all_goals exact ⟨by (first | (simp [ltrI, *]; done) | (simp [ltrI, *]; omega)), rfl⟩
def spcI (c : Int) : Bool := (c == 32) || (c == 9) || (c == 13) || (c == 10)
theorem spcI_eq (c : Int) : spcI c = isWs c := by
  cases h1 : (c == 32) <;> cases h2 : (c == 9) <;> cases h3 : (c == 13) <;> cases h4 : (c == 10) <;> simp [spcI, isWs, isHws, h1, h2, h3, h4]
set_option maxHeartbeats 1600000 in
set_option maxRecDepth 100000 in
theorem spaceB (c : Nat) (w : World) : Calls Tryf.prog 10 #[.int .u8 c] w fun e w' => e = .returned (.bool (isWs (c : Int))) ∧ w = w' := by
  rw [← spcI_eq]
  obtain ⟨z, hz⟩ : ∃ z : Int, z = (c : Int) := ⟨_, rfl⟩
  rw [← hz]
  clear hz
  go_enter Tryf.func10, Tryf.ntmps10
  go_wp2
  all_goals go_ret
  all_goals exact ⟨by (first | (simp [spcI, *]; done) | (simp [spcI, *]; omega)), rfl⟩
def punI (c : Int) : Int := if (c == 123) = true then 0 else if (c == 125) = true then 1 else if (c == 91) = true then 2 else if (c == 93) = true then 3 else if (c == 44) = true then 4 else if (c == 40) = true then 7 else if (c == 41) = true then 8 else if (c == 59) = true then 9 else -1
theorem punI_eq (c : Nat) : punI (c : Int) = punct c := by
  unfold punI punct
  simp only [beq_iff_eq]
  by_cases h1 : c = 123; · rw [if_pos (by omega), if_pos h1]
  rw [if_neg (by omega), if_neg h1]
  by_cases h1 : c = 125; · rw [if_pos (by omega), if_pos h1]
  rw [if_neg (by omega), if_neg h1]
  by_cases h1 : c = 91; · rw [if_pos (by omega), if_pos h1]
  rw [if_neg (by omega), if_neg h1]
  by_cases h1 : c = 93; · rw [if_pos (by omega), if_pos h1]
  rw [if_neg (by omega), if_neg h1]
  by_cases h1 : c = 44; · rw [if_pos (by omega), if_pos h1]
  rw [if_neg (by omega), if_neg h1]
  by_cases h1 : c = 40; · rw [if_pos (by omega), if_pos h1]
  rw [if_neg (by omega), if_neg h1]
  by_cases h1 : c = 41; · rw [if_pos (by omega), if_pos h1]
  rw [if_neg (by omega), if_neg h1]
  by_cases h1 : c = 59; · rw [if_pos (by omega), if_pos h1]
  rw [if_neg (by omega), if_neg h1]
set_option maxHeartbeats 1600000 in
set_option maxRecDepth 100000 in
theorem punctB (c : Nat) (w : World) : Calls Tryf.prog 11 #[.int .u8 c] w fun e w' => e = .returned (.int .i64 (punct c)) ∧ w = w' := by
  rw [← punI_eq]
  obtain ⟨z, hz⟩ : ∃ z : Int, z = (c : Int) := ⟨_, rfl⟩
  rw [← hz]
  clear hz
  go_enter Tryf.func11, Tryf.ntmps11
  go_wp2
  all_goals go_ret
  all_goals exact ⟨by (first | (simp [punI, *]; done) | (simp [punI, *]; omega)), rfl⟩
set_option maxHeartbeats 3200000 in
set_option maxRecDepth 100000 in
theorem kwB (s : ByteArray) (w : World) : Calls Tryf.prog 13 #[.string s] w fun e w' => e = .returned (.int .i64 (kwKind s)) ∧ w = w' := by
  go_enter Tryf.func13, Tryf.ntmps13
  go_wp2
  all_goals go_ret
  all_goals exact ⟨by simp [kwKind, *], rfl⟩

end Lx
end Go.Proofs.YthohpccmleodpaaFmt
