/-
  Numbers, with no program in sight: the grammar by places of the text.
-/
import Derived.Test.YtfcijponbeainaaFmtNumM
import Derived.Test.YtfcijponbeainaaFmtNumD
namespace Go.Proofs.YtfcijponbeainaaFmt
open Go

/-- A group of digits at place k. -/
def numGrpAt (bs : List UInt8) (k : Nat) : Option Nat :=
  match bs.drop k with
  | d :: ds => if dig d then (if (grp ds (k + 1)).2 then some (grp ds (k + 1)).1 else none) else none
  | [] => none

theorem ga_dig {s : ByteArray} {k : Nat} (h : k < s.size) (hd : dig (s[k]'h)) : numGrpAt s.data.toList k = if (grp (s.data.toList.drop (k + 1)) (k + 1)).2 then some (grp (s.data.toList.drop (k + 1)) (k + 1)).1 else none := by
  unfold numGrpAt
  rw [drop_get s k h]
  simp only [if_pos hd]
theorem ga_no {s : ByteArray} {k : Nat} (h : ∀ h : k < s.size, ¬ dig (s[k]'h)) : numGrpAt s.data.toList k = none := by
  unfold numGrpAt
  by_cases hk : k < s.size
  · rw [drop_get s k hk]
    simp only [if_neg (h hk)]
  · rw [drop_end s k (by omega)]

theorem nf_dot {s : ByteArray} {i : Nat} (h : i < s.size) (e : s[i]'h = 46) : numFrac s.data.toList i = (numGrpAt s.data.toList (i + 1)).bind (numExp s.data.toList) := by
  unfold numFrac
  rw [drop_get s i h, e]
  simp only [if_true]
  by_cases h2 : i + 1 < s.size
  · rw [drop_get s (i + 1) h2]
    by_cases hd : dig (s[i + 1]'h2)
    · rw [ga_dig h2 hd]
      simp only [if_pos hd]
      by_cases hg : (grp (s.data.toList.drop (i + 1 + 1)) (i + 1 + 1)).2 = true
      · rw [if_pos hg, if_pos hg]
        rfl
      · rw [if_neg hg, if_neg hg]
        rfl
    · rw [ga_no (fun _ => hd)]
      simp only [if_neg hd]
      rfl
  · rw [drop_end s (i + 1) (by omega), ga_no (fun h3 => absurd h3 h2)]
    rfl
theorem nf_oth {s : ByteArray} {i : Nat} (h : ∀ h : i < s.size, s[i]'h ≠ 46) : numFrac s.data.toList i = numExp s.data.toList i := by
  unfold numFrac
  by_cases hk : i < s.size
  · rw [drop_get s i hk]
    simp only [if_neg (h hk)]
  · rw [drop_end s i (by omega)]

theorem ne_sign {s : ByteArray} {i : Nat} (h : i < s.size) (e : s[i]'h = 101 ∨ s[i]'h = 69) (h2 : i + 1 < s.size) (e2 : s[i + 1]'h2 = 43 ∨ s[i + 1]'h2 = 45) : numExp s.data.toList i = numGrpAt s.data.toList (i + 2) := by
  unfold numExp
  rw [drop_get s i h]
  simp only [if_pos e]
  rw [drop_get s (i + 1) h2]
  simp only [if_pos e2]
  unfold numGrpAt
  rfl
theorem ne_e {s : ByteArray} {i : Nat} (h : i < s.size) (e : s[i]'h = 101 ∨ s[i]'h = 69) (h2 : ∀ h2 : i + 1 < s.size, ¬ (s[i + 1]'h2 = 43 ∨ s[i + 1]'h2 = 45)) : numExp s.data.toList i = numGrpAt s.data.toList (i + 1) := by
  unfold numExp
  rw [drop_get s i h]
  simp only [if_pos e]
  unfold numGrpAt
  by_cases hk : i + 1 < s.size
  · rw [drop_get s (i + 1) hk]
    simp only [if_neg (h2 hk)]
  · rw [drop_end s (i + 1) (by omega)]
theorem ne_oth {s : ByteArray} {i : Nat} (h : ∀ h : i < s.size, ¬ (s[i]'h = 101 ∨ s[i]'h = 69)) : numExp s.data.toList i = some i := by
  unfold numExp
  by_cases hk : i < s.size
  · rw [drop_get s i hk]
    simp only [if_neg (h hk)]
  · rw [drop_end s i (by omega)]

theorem nm_zero_us {s : ByteArray} (h : 0 < s.size) (e : s[0]'h = 48) (h1 : 1 < s.size) (e1 : s[1]'h1 = 95) : numModel s.data.toList = none := by
  have hd := drop_get s 0 h
  rw [List.drop_zero, drop_get s (0 + 1) h1] at hd
  unfold numModel
  rw [hd]
  simp [e, e1]
theorem nm_zero {s : ByteArray} (h : 0 < s.size) (e : s[0]'h = 48) (h1 : ∀ h1 : 1 < s.size, s[1]'h1 ≠ 95) : numModel s.data.toList = numFrac s.data.toList 1 := by
  have hd := drop_get s 0 h
  rw [List.drop_zero] at hd
  have hn : ¬ (s.data.toList.drop (0 + 1)).head? = some 95 := by
    by_cases hk : 1 < s.size
    · rw [drop_get s (0 + 1) hk]
      simpa using h1 hk
    · rw [drop_end s (0 + 1) (by omega)]
      simp
  unfold numModel
  rw [hd]
  simp only [if_pos e, if_neg hn]
theorem nm_grp {s : ByteArray} (h : 0 < s.size) (e : s[0]'h ≠ 48) : numModel s.data.toList = if (grp (s.data.toList.drop (0 + 1)) (0 + 1)).2 then numFrac s.data.toList (grp (s.data.toList.drop (0 + 1)) (0 + 1)).1 else none := by
  have key : ∀ (bs : List UInt8) (b : UInt8) (rest : List UInt8), bs = b :: rest → b ≠ 48 → numModel bs = if (grp (bs.drop (0 + 1)) (0 + 1)).2 then numFrac bs (grp (bs.drop (0 + 1)) (0 + 1)).1 else none := by
    rintro _ b rest rfl hb
    unfold numModel
    simp only [if_neg hb]
    rfl
  have hd := drop_get s 0 h
  rw [List.drop_zero] at hd
  exact key _ _ _ hd e
theorem grp_bd (s : ByteArray) (k : Nat) (h : k ≤ s.size) : k ≤ (grp (s.data.toList.drop k) k).1 ∧ (grp (s.data.toList.drop k) k).1 ≤ s.size := by
  obtain ⟨h1, h2, _⟩ := grp_run grp2 (s.data.toList.drop k) k
  rw [List.length_drop] at h2
  have e : s.data.toList.length = s.size := rfl
  omega

end Go.Proofs.YtfcijponbeainaaFmt
