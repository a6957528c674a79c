/-
  Numbers, with no program in sight: what one step of the automaton says of its rune.
-/
import Derived.Test.YthohpccmleodpaaFmtNumP
namespace Go.Proofs.YthohpccmleodpaaFmt
open Go

theorem numStep_hi {st : Nat} {r q : Int} (h : 128 ≤ r) (h' : 128 ≤ q) : numStep st r = numStep st q := by
  have key : ∀ z : Int, 128 ≤ z → numStep st z = (match st with | 1 => .stop | 2 => .stop | 5 => .stop | 9 => .stop | _ => .fail) := by
    intro z hz
    have n0 : ¬ z = 48 := by omega
    have n1 : ¬ (49 ≤ z ∧ z ≤ 57) := by omega
    have n2 : ¬ z = 46 := by omega
    have n3 : ¬ (z = 101 ∨ z = 69) := by omega
    have n4 : ¬ z = 95 := by omega
    have n5 : ¬ (48 ≤ z ∧ z ≤ 57) := by omega
    have n6 : ¬ (z = 43 ∨ z = 45) := by omega
    unfold numStep
    split <;> simp only [if_neg n0, if_neg n1, if_neg n2, if_neg n3, if_neg n4, if_neg n5, if_neg n6]
  rw [key r h, key q h']

theorem numStep_low {st st' : Nat} {r : Int} (h : numStep st r = .on st') : 0 ≤ r ∧ r < 128 ∧ st' ≤ 10 ∧ st' ≠ 0 := by
  unfold numStep at h
  split at h <;> (repeat' split at h) <;> first | (injection h with h; subst h; omega) | cases h

end Go.Proofs.YthohpccmleodpaaFmt
