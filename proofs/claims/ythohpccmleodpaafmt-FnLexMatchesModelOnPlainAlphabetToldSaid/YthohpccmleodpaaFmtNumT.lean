/-
  Numbers: the automaton and the lexer's states.
-/
import Derived.Test.YthohpccmleodpaaFmtNumS
import Derived.Test.YthohpccmleodpaaFmtNl
namespace Go.Proofs.YthohpccmleodpaaFmt
open Go

/-- What lexNumber's loop knows behind k steps, in state st. -/
structure NumTo (s : ByteArray) (L : LexSt) (k st : Nat) : Prop where
  bn : (L.steps k).bn = L.bn + k
  fit : L.bn + k ≤ s.size
  run : numRun 0 (s.data.toList.drop L.bn) 0 = numRun st (s.data.toList.drop (L.bn + k)) k
  le : st ≤ 10
  nz : st = 0 → k = 0
theorem NumTo.zero {s : ByteArray} {L : LexSt} (h : Inv s L) : NumTo s L 0 0 := ⟨rfl, h.le, rfl, Nat.zero_le _, fun _ => rfl⟩

/-- The bytes without '_'. -/
def numBuf (s : ByteArray) (p k : Nat) : List UInt8 := ((s.data.toList.drop p).take k).filter fun b => b != 95

theorem drop_at (s : ByteArray) (q : Nat) (h : q < s.size) : s.data.toList.drop q = s[q]'h :: s.data.toList.drop (q + 1) := by
  rw [List.drop_eq_getElem_cons (by simpa using h)]
  rfl

theorem numBuf_next (s : ByteArray) (p k : Nat) (h : p + k < s.size) : numBuf s p (k + 1) = numBuf s p k ++ (if byteAt s (p + k) = 95 then [] else [s[p + k]'h]) := by
  unfold numBuf
  rw [List.take_add, List.filter_append, List.drop_drop, drop_at s (p + k) h]
  congr 1
  have hb := byte_of_get s (p + k) h
  simp only [List.take_succ_cons, List.take_zero]
  by_cases h95 : byteAt s (p + k) = 95
  · rw [if_pos h95]
    have e : s[p + k]'h = 95 := UInt8.toNat_inj.1 (by rw [hb, h95]; rfl)
    rw [e]
    rfl
  · rw [if_neg h95]
    have e : ¬ s[p + k]'h = 95 := fun e => h95 (by rw [← hb, e]; rfl)
    simp [e]
theorem numBuf_le (s : ByteArray) (p k : Nat) : (numBuf s p k).length ≤ s.size := by
  unfold numBuf
  refine Nat.le_trans (List.length_filter_le _ _) ?_
  rw [List.length_take, List.length_drop]
  have : s.data.toList.length = s.size := rfl
  omega

/-- What a step on brings. -/
structure NumOn (s : ByteArray) (L : LexSt) (k st : Nat) : Prop where
  to : NumTo s L (k + 1) st
  in_ : L.bn + k < s.size
  rune : (L.steps k).rune = (byteAt s (L.bn + k) : Nat)
  low : byteAt s (L.bn + k) < 128
  bn : (L.steps k).step.bn = L.bn + k + 1
theorem NumTo.on {s : ByteArray} {L : LexSt} {k st st' : Nat} (hi : Inv s L) (h : NumTo s L k st) (hs : numStep st (L.steps k).rune = .on st') : NumOn s L k st' := by
  obtain ⟨h0, h1, h2, h3⟩ := numStep_low hs
  have hinp := (hi.steps k).inp
  have hin : (L.steps k).bn < (L.steps k).inp.size := by
    by_cases hb : (L.steps k).bn < (L.steps k).inp.size
    · exact hb
    · rw [LexSt.rune_end (by omega)] at h0
      omega
  have hin' : L.bn + k < s.size := by rw [hinp, h.bn] at hin; exact hin
  have hr := LexSt.rune_in hin
  have hlow : byteAt s (L.bn + k) < 128 := by
    by_cases hl : byteAt s (L.bn + k) < 128
    · exact hl
    · have := (decode_hi s (L.bn + k) hin' (by omega)).1
      rw [hr, hinp, h.bn] at h1
      omega
  have hd := decode_low s (L.bn + k) hin' hlow
  have hrune : (L.steps k).rune = (byteAt s (L.bn + k) : Nat) := by rw [hr, hinp, h.bn, hd]
  have hbn : (L.steps k).step.bn = L.bn + k + 1 := by
    unfold LexSt.step
    rw [if_pos hin, hinp, h.bn, hd]
    split <;> rfl
  refine ⟨⟨hbn, by omega, ?_, h2, fun e => absurd e h3⟩, hin', hrune, hlow, hbn⟩
  rw [h.run, drop_at s (L.bn + k) hin', numRun]
  have : numStep st ((s[L.bn + k]'hin').toNat : Int) = .on st' := by rw [byte_of_get, ← hrune]; exact hs
  rw [this]
  rfl

/-- The rune that stops the automaton, or that it refuses, is as the byte there (or the end) says. -/
theorem NumTo.here {s : ByteArray} {L : LexSt} {k st : Nat} (hi : Inv s L) (h : NumTo s L k st) :
    numRun 0 (s.data.toList.drop L.bn) 0 = (match numStep st (L.steps k).rune with | .on st' => numRun st' (s.data.toList.drop (L.bn + k + 1)) (k + 1) | .stop => some k | .fail => none) := by
  have hinp := (hi.steps k).inp
  by_cases hin : L.bn + k < s.size
  · have hin2 : (L.steps k).bn < (L.steps k).inp.size := by rw [hinp, h.bn]; exact hin
    have hr := LexSt.rune_in hin2
    have key : numStep st (L.steps k).rune = numStep st ((s[L.bn + k]'hin).toNat : Int) := by
      rw [hr, hinp, h.bn, byte_of_get]
      by_cases hl : byteAt s (L.bn + k) < 128
      · rw [decode_low s (L.bn + k) hin hl]
      · exact numStep_hi (by have := (decode_hi s (L.bn + k) hin (by omega)).1; omega) (by omega)
    rw [h.run, drop_at s (L.bn + k) hin, numRun, key]
    rfl
  · have hend : (L.steps k).rune = -1 := LexSt.rune_end (by rw [hinp, h.bn]; omega)
    have hd : s.data.toList.drop (L.bn + k) = [] := List.drop_eq_nil_of_le (by have : s.data.toList.length = s.size := rfl
                                                                               omega)
    rw [h.run, hd, hend, numRun]
    cases hs : numStep st (-1) with
    | on st' => exact absurd (numStep_low hs).1 (by omega)
    | stop => rfl
    | fail => rfl
theorem NumTo.stop {s : ByteArray} {L : LexSt} {k st : Nat} (hi : Inv s L) (h : NumTo s L k st) (hs : numStep st (L.steps k).rune = .stop) : numRun 0 (s.data.toList.drop L.bn) 0 = some k := by
  rw [h.here hi, hs]
theorem NumTo.fail {s : ByteArray} {L : LexSt} {k st : Nat} (hi : Inv s L) (h : NumTo s L k st) (hs : numStep st (L.steps k).rune = .fail) : numRun 0 (s.data.toList.drop L.bn) 0 = none := by
  rw [h.here hi, hs]

end Go.Proofs.YthohpccmleodpaaFmt
