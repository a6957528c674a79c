/-
  Numbers, with no program in sight: the grammar, and the automaton on it.
-/
import Derived.Test.YtfcijponbeainaaFmtNumG
namespace Go.Proofs.YtfcijponbeainaaFmt
open Go

/-- From byte i on, behind the fraction. -/
def numExp (s : List UInt8) (i : Nat) : Option Nat :=
  match s.drop i with
  | b :: rest =>
    if b = 101 ∨ b = 69 then
      match rest with
      | c :: cs =>
        if c = 43 ∨ c = 45 then
          match cs with
          | d :: ds => if dig d then (if (grp ds (i + 3)).2 then some (grp ds (i + 3)).1 else none) else none
          | [] => none
        else if dig c then (if (grp cs (i + 2)).2 then some (grp cs (i + 2)).1 else none) else none
      | [] => none
    else some i
  | [] => some i
/-- From byte i on, behind the whole part. -/
def numFrac (s : List UInt8) (i : Nat) : Option Nat :=
  match s.drop i with
  | b :: rest =>
    if b = 46 then
      match rest with
      | c :: cs => if dig c then (if (grp cs (i + 2)).2 then numExp s (grp cs (i + 2)).1 else none) else none
      | [] => none
    else numExp s i
  | [] => numExp s i
def numModel (s : List UInt8) : Option Nat :=
  match s with
  | b :: rest => if b = 48 then (if rest.head? = some 95 then none else numFrac s 1) else if (grp rest 1).2 then numFrac s (grp rest 1).1 else none
  | [] => none

theorem u8i {b : UInt8} {n : Nat} (hn : n < 256) : ((b.toNat : Int) = (n : Int)) ↔ b = UInt8.ofNat n := by
  constructor
  · intro h
    have h2 : b.toNat = n := by omega
    rw [← h2]
    simp
  · rintro rfl
    simp
    omega

theorem run9 {rest : List UInt8} {i : Nat} (h : ∀ b, rest.head? = some b → ¬ dig b ∧ b ≠ 95) : numRun 9 rest i = some i := by
  cases rest with
  | nil => rfl
  | cons b bs =>
    obtain ⟨h1, h2⟩ := h b rfl
    have h3 : ¬ (b.toNat : Int) = 95 := fun e => h2 ((u8i (n := 95) (by omega)).1 e)
    unfold dig at h1
    rw [numRun]
    simp only [numStep]
    rw [if_neg h1, if_neg h3]
theorem run9grp (ds : List UInt8) (k : Nat) : numRun 9 ds k = if (grp ds k).2 then some (grp ds k).1 else none := by
  obtain ⟨_, _, h3, h4⟩ := grp_run grp9 ds k
  rw [h3]
  by_cases h : (grp ds k).2 = true
  · rw [if_pos h, if_pos h, run9 (h4 h)]
  · rw [if_neg h, if_neg h]

theorem run7 (rest : List UInt8) (i : Nat) : numRun 7 rest (i + 1) = (match rest with
      | c :: cs =>
        if c = 43 ∨ c = 45 then
          match cs with
          | d :: ds => if dig d then (if (grp ds (i + 3)).2 then some (grp ds (i + 3)).1 else none) else none
          | [] => none
        else if dig c then (if (grp cs (i + 2)).2 then some (grp cs (i + 2)).1 else none) else none
      | [] => none) := by
  cases rest with
  | nil => rfl
  | cons c cs =>
    have e1 : ((c.toNat : Int) = 43 ∨ (c.toNat : Int) = 45) ↔ (c = 43 ∨ c = 45) := by
      rw [show ((c.toNat : Int) = 43) ↔ c = 43 from u8i (n := 43) (by omega), show ((c.toNat : Int) = 45) ↔ c = 45 from u8i (n := 45) (by omega)]
    by_cases h : c = 43 ∨ c = 45
    · rw [numRun_on (st' := 8) (by simp only [numStep]; rw [if_pos (e1.2 h)])]
      simp only [if_pos h]
      cases cs with
      | nil => rfl
      | cons d ds =>
        by_cases hd : dig d
        · rw [numRun_on (st' := 9) (by unfold dig at hd; simp only [numStep]; rw [if_pos hd]), run9grp]
          simp only [if_pos hd]
        · rw [numRun_fail (by unfold dig at hd; simp only [numStep]; rw [if_neg hd])]
          simp only [if_neg hd]
    · simp only [if_neg h]
      have h2 := fun e => h (e1.1 e)
      by_cases hd : dig c
      · rw [numRun_on (st' := 9) (by unfold dig at hd; simp only [numStep]; rw [if_neg h2, if_pos hd]), run9grp]
        simp only [if_pos hd]
      · rw [numRun_fail (by unfold dig at hd; simp only [numStep]; rw [if_neg h2, if_neg hd])]
        simp only [if_neg hd]

/-- Behind a group of the fraction (5), behind one of the whole part (2), behind a lone 0 (1). -/
theorem run5 (s : List UInt8) (i : Nat) (h : ∀ b, (s.drop i).head? = some b → ¬ dig b ∧ b ≠ 95) : numRun 5 (s.drop i) i = numExp s i := by
  unfold numExp
  cases hr : s.drop i with
  | nil => rfl
  | cons b rest =>
    rw [hr] at h
    obtain ⟨h1, h2⟩ := h b rfl
    have h3 : ¬ (b.toNat : Int) = 95 := fun e => h2 ((u8i (n := 95) (by omega)).1 e)
    unfold dig at h1
    have e1 : ((b.toNat : Int) = 101 ∨ (b.toNat : Int) = 69) ↔ (b = 101 ∨ b = 69) := by
      rw [show ((b.toNat : Int) = 101) ↔ b = 101 from u8i (n := 101) (by omega), show ((b.toNat : Int) = 69) ↔ b = 69 from u8i (n := 69) (by omega)]
    by_cases he : b = 101 ∨ b = 69
    · rw [numRun_on (st' := 7) (by simp only [numStep]; rw [if_pos (e1.2 he)]), run7]
      simp only [if_pos he]
    · simp only [if_neg he]
      rw [numRun]
      simp only [numStep]
      rw [if_neg (fun e => he (e1.1 e)), if_neg h1, if_neg h3]
theorem run5grp (s : List UInt8) (cs : List UInt8) (k : Nat) (hs : s.drop k = cs) : numRun 5 cs k = if (grp cs k).2 then numExp s (grp cs k).1 else none := by
  subst hs
  obtain ⟨h1, _, h3, h4⟩ := grp_run grp5 (s.drop k) k
  rw [h3]
  by_cases h : (grp (s.drop k) k).2 = true
  · have e : (s.drop k).drop ((grp (s.drop k) k).1 - k) = s.drop (grp (s.drop k) k).1 := by
      rw [List.drop_drop]
      congr 1
      omega
    rw [if_pos h, if_pos h, e, run5 s _ (by rw [← e]; exact h4 h)]
  · rw [if_neg h, if_neg h]

theorem runF (st : Nat) (hst : st = 1 ∨ st = 2) (s : List UInt8) (i : Nat) (h : ∀ b, (s.drop i).head? = some b → (st = 2 → ¬ dig b) ∧ b ≠ 95) : numRun st (s.drop i) i = numFrac s i := by
  unfold numFrac
  cases hr : s.drop i with
  | nil =>
    rcases hst with rfl | rfl <;> simp [numRun, numStep, numExp, hr]
  | cons b rest =>
    rw [hr] at h
    obtain ⟨h1, h2⟩ := h b rfl
    have h3 : ¬ (b.toNat : Int) = 95 := fun e => h2 ((u8i (n := 95) (by omega)).1 e)
    have e0 : ((b.toNat : Int) = 46) ↔ b = 46 := u8i (n := 46) (by omega)
    have e1 : ((b.toNat : Int) = 101 ∨ (b.toNat : Int) = 69) ↔ (b = 101 ∨ b = 69) := by
      rw [show ((b.toNat : Int) = 101) ↔ b = 101 from u8i (n := 101) (by omega), show ((b.toNat : Int) = 69) ↔ b = 69 from u8i (n := 69) (by omega)]
    by_cases hd : b = 46
    · rw [numRun_on (st' := 4) (by rcases hst with rfl | rfl <;> (simp only [numStep]; rw [if_pos (e0.2 hd)]))]
      simp only [if_pos hd]
      cases rest with
      | nil => rfl
      | cons c cs =>
        by_cases hc : dig c
        · rw [numRun_on (st' := 5) (by unfold dig at hc; simp only [numStep]; rw [if_pos hc]), run5grp s cs (i + 1 + 1) (by
            have := congrArg (List.drop 2) hr
            rw [List.drop_drop] at this
            simpa using this)]
          simp only [if_pos hc]
        · rw [numRun_fail (by unfold dig at hc; simp only [numStep]; rw [if_neg hc])]
          simp only [if_neg hc]
    · simp only [if_neg hd]
      unfold numExp
      rw [hr]
      by_cases he : b = 101 ∨ b = 69
      · rw [numRun_on (st' := 7) (by rcases hst with rfl | rfl <;> (simp only [numStep]; rw [if_neg (fun e => hd (e0.1 e)), if_pos (e1.2 he)])), run7]
        simp only [if_pos he]
      · simp only [if_neg he]
        have h4 := fun e => he (e1.1 e)
        have h5 := fun e => hd (e0.1 e)
        rw [numRun]
        rcases hst with rfl | rfl
        · simp only [numStep]
          rw [if_neg h5, if_neg h4, if_neg h3]
        · have h6 := h1 rfl
          unfold dig at h6
          simp only [numStep]
          rw [if_neg h5, if_neg h4, if_neg h6, if_neg h3]

theorem num_eq (b : UInt8) (rest : List UInt8) (hb : dig b) : numRun 0 (b :: rest) 0 = numModel (b :: rest) := by
  unfold numModel
  have e0 : ((b.toNat : Int) = 48) ↔ b = 48 := u8i (n := 48) (by omega)
  by_cases h : b = 48
  · simp only [if_pos h]
    rw [numRun_on (st' := 1) (by simp only [numStep]; rw [if_pos (e0.2 h)])]
    by_cases hu : rest.head? = some 95
    · rw [if_pos hu]
      cases rest with
      | nil => cases hu
      | cons c cs =>
        cases hu
        rfl
    · rw [if_neg hu]
      exact runF 1 (.inl rfl) (b :: rest) 1 (fun c hc => ⟨fun e => by omega, fun e => hu (by subst e; exact hc)⟩)
  · simp only [if_neg h]
    have hne : ¬ (b.toNat : Int) = 48 := fun e => h (e0.1 e)
    unfold dig at hb
    rw [numRun_on (st' := 2) (by simp only [numStep]; rw [if_neg hne, if_pos (by omega)])]
    obtain ⟨h1, _, h3, h4⟩ := grp_run grp2 rest 1
    rw [h3]
    by_cases hg : (grp rest 1).2 = true
    · have e : rest.drop ((grp rest 1).1 - 1) = (b :: rest).drop (grp rest 1).1 := by
        rw [show (grp rest 1).1 = ((grp rest 1).1 - 1) + 1 by omega]
        rfl
      rw [if_pos hg, if_pos hg, e]
      exact runF 2 (.inr rfl) (b :: rest) _ (fun c hc => by
        rw [← e] at hc
        obtain ⟨h5, h6⟩ := h4 hg c hc
        exact ⟨fun _ => h5, h6⟩)
    · rw [if_neg hg, if_neg hg]

end Go.Proofs.YtfcijponbeainaaFmt
