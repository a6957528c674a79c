/-
  Numbers, with no program in sight: the automaton of lexNumber on bytes; it sees one byte past what it takes.
-/
import Derived.Test.YthohpccmleodpaaFmtMem
namespace Go.Proofs.YthohpccmleodpaaFmt
open Go

inductive NumOut where
  | on (st : Nat)
  | stop
  | fail

/-- A step of the automaton: the state's number as in the program, the rune. -/
def numStep (st : Nat) (r : Int) : NumOut :=
  match st with
  | 0 => if r = 48 then .on 1 else if 49 ≤ r ∧ r ≤ 57 then .on 2 else .fail
  | 1 => if r = 46 then .on 4 else if r = 101 ∨ r = 69 then .on 7 else if r = 95 then .fail else .stop
  | 2 => if r = 46 then .on 4 else if r = 101 ∨ r = 69 then .on 7 else if 48 ≤ r ∧ r ≤ 57 then .on 2 else if r = 95 then .on 3 else .stop
  | 3 => if 48 ≤ r ∧ r ≤ 57 then .on 2 else .fail
  | 4 => if 48 ≤ r ∧ r ≤ 57 then .on 5 else .fail
  | 5 => if r = 101 ∨ r = 69 then .on 7 else if 48 ≤ r ∧ r ≤ 57 then .on 5 else if r = 95 then .on 6 else .stop
  | 6 => if 48 ≤ r ∧ r ≤ 57 then .on 5 else .fail
  | 7 => if r = 43 ∨ r = 45 then .on 8 else if 48 ≤ r ∧ r ≤ 57 then .on 9 else .fail
  | 8 => if 48 ≤ r ∧ r ≤ 57 then .on 9 else .fail
  | 9 => if 48 ≤ r ∧ r ≤ 57 then .on 9 else if r = 95 then .on 10 else .stop
  | 10 => if 48 ≤ r ∧ r ≤ 57 then .on 9 else .fail
  | _ => .fail

/-- The number's end, from state 'st' at byte k; none: no number. -/
def numRun : Nat → List UInt8 → Nat → Option Nat
  | st, [], k => match numStep st (-1) with
    | .stop => some k
    | _ => none
  | st, b :: bs, k => match numStep st b.toNat with
    | .on st' => numRun st' bs (k + 1)
    | .stop => some k
    | .fail => none

theorem numRun_ge : ∀ (bs : List UInt8) (st k e : Nat), numRun st bs k = some e → k ≤ e ∧ e ≤ k + bs.length
  | [], st, k, e, h => by
    unfold numRun at h
    split at h
    · cases h
      simp
    · cases h
  | b :: bs, st, k, e, h => by
    unfold numRun at h
    split at h
    · have := numRun_ge bs _ _ _ h
      simp
      omega
    · cases h
      simp
    · cases h

/-- What lies behind the byte that has stopped it does not count. -/
theorem numRun_past : ∀ (bs : List UInt8) (st k e : Nat) (t : List UInt8), numRun st bs k = some e → e < k + bs.length → numRun st (bs.take (e + 1 - k) ++ t) k = some e
  | [], st, k, e, t, h, hlt => by
    have := numRun_ge [] st k e h
    simp at hlt
    omega
  | b :: bs, st, k, e, t, h, hlt => by
    have h0 := numRun_ge (b :: bs) st k e h
    rw [show e + 1 - k = (e - k) + 1 by omega, List.take_succ_cons, List.cons_append]
    unfold numRun at h ⊢
    cases heq : numStep st b.toNat with
    | on st' =>
      rw [heq] at h
      simp only at h ⊢
      have h1 := numRun_ge bs st' (k + 1) e h
      rw [show e - k = e + 1 - (k + 1) by omega]
      exact numRun_past bs st' (k + 1) e t h (by simp at hlt; omega)
    | stop =>
      rw [heq] at h
      cases h
      rfl
    | fail =>
      rw [heq] at h
      cases h

end Go.Proofs.YthohpccmleodpaaFmt
