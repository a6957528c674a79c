/-
  Numbers, with no program in sight: a group of digits, as the grammar reads it, and the automaton on it.
-/
import Derived.Test.YtfcijponbeainaaFmtNumP
namespace Go.Proofs.YtfcijponbeainaaFmt
open Go

def dig (b : UInt8) : Prop := 48 ≤ (b.toNat : Int) ∧ (b.toNat : Int) ≤ 57
instance (b : UInt8) : Decidable (dig b) := by unfold dig; infer_instance

/-- The rest of a group of digits, from byte k on: where it ends, and whether every '_' has a digit behind it. -/
def grp : List UInt8 → Nat → Nat × Bool
  | [], k => (k, true)
  | [b], k => if dig b then (k + 1, true) else if b = 95 then (k, false) else (k, true)
  | b :: c :: cs, k => if dig b then grp (c :: cs) (k + 1) else if b = 95 then (if dig c then grp cs (k + 2) else (k, false)) else (k, true)

/-- A pair of states that read a group: 'st' behind a digit, 'us' behind '_'. -/
structure GrpSt (st us : Nat) : Prop where
  digit : ∀ b, dig b → numStep st b.toNat = .on st
  under : numStep st 95 = .on us
  udig : ∀ b, dig b → numStep us b.toNat = .on st
  unot : ∀ b, ¬ dig b → numStep us b.toNat = .fail
  uend : numStep us (-1) = .fail

theorem grp2 : GrpSt 2 3 := by
  refine ⟨fun b h => ?_, rfl, fun b h => ?_, fun b h => ?_, rfl⟩ <;> unfold dig at h <;> simp only [numStep]
  · rw [if_neg (by omega), if_neg (by omega), if_pos h]
  · rw [if_pos h]
  · rw [if_neg h]
theorem grp5 : GrpSt 5 6 := by
  refine ⟨fun b h => ?_, rfl, fun b h => ?_, fun b h => ?_, rfl⟩ <;> unfold dig at h <;> simp only [numStep]
  · rw [if_neg (by omega), if_pos h]
  · rw [if_pos h]
  · rw [if_neg h]
theorem grp9 : GrpSt 9 10 := by
  refine ⟨fun b h => ?_, rfl, fun b h => ?_, fun b h => ?_, rfl⟩ <;> unfold dig at h <;> simp only [numStep]
  · rw [if_pos h]
  · rw [if_pos h]
  · rw [if_neg h]

theorem numRun_on {st st' : Nat} {b : UInt8} {bs : List UInt8} {k : Nat} (h : numStep st b.toNat = .on st') : numRun st (b :: bs) k = numRun st' bs (k + 1) := by
  rw [numRun, h]
theorem numRun_fail {st : Nat} {b : UInt8} {bs : List UInt8} {k : Nat} (h : numStep st b.toNat = .fail) : numRun st (b :: bs) k = none := by
  rw [numRun, h]
theorem numRun_uend {st : Nat} {k : Nat} (h : numStep st (-1) = .fail) : numRun st [] k = none := by
  rw [numRun, h]

theorem grp_run {st us : Nat} (hg : GrpSt st us) : ∀ (bs : List UInt8) (k : Nat),
    k ≤ (grp bs k).1 ∧ (grp bs k).1 ≤ k + bs.length ∧ (numRun st bs k = if (grp bs k).2 then numRun st (bs.drop ((grp bs k).1 - k)) (grp bs k).1 else none) ∧ ((grp bs k).2 = true → ∀ b, (bs.drop ((grp bs k).1 - k)).head? = some b → ¬ dig b ∧ b ≠ 95)
  | [], k => by
    simp [grp]
  | [b], k => by
    unfold grp
    by_cases h : dig b
    · simp [h, numRun_on (hg.digit b h)]
    · by_cases h2 : b = 95
      · subst h2
        have e : numStep st (95 : UInt8).toNat = .on us := hg.under
        simp [h, numRun_on e, numRun_uend hg.uend]
      · simp [h, h2]
  | b :: c :: cs, k => by
    unfold grp
    by_cases h : dig b
    · obtain ⟨h1, h2, h3, h4⟩ := grp_run hg (c :: cs) (k + 1)
      rw [if_pos h]
      have e : (grp (c :: cs) (k + 1)).1 - k = ((grp (c :: cs) (k + 1)).1 - (k + 1)) + 1 := by omega
      refine ⟨by omega, by simp at h2 ⊢; omega, ?_, ?_⟩
      · rw [numRun_on (hg.digit b h), h3, e, List.drop_succ_cons]
      · rw [e, List.drop_succ_cons]
        exact h4
    · rw [if_neg h]
      by_cases h2 : b = 95
      · subst h2
        have e : numStep st (95 : UInt8).toNat = .on us := hg.under
        rw [if_pos rfl, numRun_on e]
        by_cases h5 : dig c
        · obtain ⟨h1, h2, h3, h4⟩ := grp_run hg cs (k + 2)
          rw [if_pos h5, numRun_on (hg.udig c h5)]
          have e : (grp cs (k + 2)).1 - k = ((grp cs (k + 2)).1 - (k + 2)) + 2 := by omega
          refine ⟨by omega, by simp; omega, ?_, ?_⟩
          · rw [h3, e, List.drop_succ_cons, List.drop_succ_cons]
          · rw [e, List.drop_succ_cons, List.drop_succ_cons]
            exact h4
        · rw [if_neg h5, numRun_fail (hg.unot c h5)]
          simp
      · rw [if_neg h2]
        simp [h, h2]

end Go.Proofs.YtfcijponbeainaaFmt
