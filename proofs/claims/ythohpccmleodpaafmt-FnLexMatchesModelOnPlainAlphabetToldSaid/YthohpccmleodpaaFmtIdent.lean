/-
  Which runes an identifier is made of; the kind of a word.
-/
import Derived.Test.YthohpccmleodpaaFmtLexA
namespace Go.Proofs.YthohpccmleodpaaFmt
open Go Go.RowKit Go.Shelf

def isUp (r : Int) : Bool := decide (65 ≤ r) && decide (r ≤ 90)
theorem isUp_calls (r : Int) (w : World) : Calls Tryf.prog 42 #[.int .i32 r] w fun e w' => e = .returned (.bool (isUp r)) ∧ w = w' := by
  by_cases h1 : 65 ≤ r
  · by_cases h2 : r ≤ 90
    · have e3 : isUp r = true := by unfold isUp; rw [decide_eq_true h1, decide_eq_true h2]; rfl
      rw [e3]
      clear e3
      go_enter Tryf.func42, Tryf.ntmps42
      go_wp2
      go_ret
      exact ⟨rfl, rfl⟩
    · have e3 : isUp r = false := by unfold isUp; rw [decide_eq_true h1, decide_eq_false h2]; rfl
      rw [e3]
      clear e3
      have h2' : decide (r ≤ 90) = false := decide_eq_false h2
      go_enter Tryf.func42, Tryf.ntmps42
      go_wp2
      go_ret
      exact ⟨rfl, rfl⟩
  · have e3 : isUp r = false := by unfold isUp; rw [decide_eq_false h1]; rfl
    rw [e3]
    clear e3
    have h1' : decide (65 ≤ r) = false := decide_eq_false h1
    go_enter Tryf.func42, Tryf.ntmps42
    go_wp2
    go_ret
    exact ⟨rfl, rfl⟩

def isLo (r : Int) : Bool := decide (97 ≤ r) && decide (r ≤ 122)
theorem isLo_calls (r : Int) (w : World) : Calls Tryf.prog 43 #[.int .i32 r] w fun e w' => e = .returned (.bool (isLo r)) ∧ w = w' := by
  by_cases h1 : 97 ≤ r
  · by_cases h2 : r ≤ 122
    · have e3 : isLo r = true := by unfold isLo; rw [decide_eq_true h1, decide_eq_true h2]; rfl
      rw [e3]
      clear e3
      go_enter Tryf.func43, Tryf.ntmps43
      go_wp2
      go_ret
      exact ⟨rfl, rfl⟩
    · have e3 : isLo r = false := by unfold isLo; rw [decide_eq_true h1, decide_eq_false h2]; rfl
      rw [e3]
      clear e3
      have h2' : decide (r ≤ 122) = false := decide_eq_false h2
      go_enter Tryf.func43, Tryf.ntmps43
      go_wp2
      go_ret
      exact ⟨rfl, rfl⟩
  · have e3 : isLo r = false := by unfold isLo; rw [decide_eq_false h1]; rfl
    rw [e3]
    clear e3
    have h1' : decide (97 ≤ r) = false := decide_eq_false h1
    go_enter Tryf.func43, Tryf.ntmps43
    go_wp2
    go_ret
    exact ⟨rfl, rfl⟩

def isNu (r : Int) : Bool := decide (48 ≤ r) && decide (r ≤ 57)
theorem isNu_calls (r : Int) (w : World) : Calls Tryf.prog 61 #[.int .i32 r] w fun e w' => e = .returned (.bool (isNu r)) ∧ w = w' := by
  by_cases h1 : 48 ≤ r
  · by_cases h2 : r ≤ 57
    · have e3 : isNu r = true := by unfold isNu; rw [decide_eq_true h1, decide_eq_true h2]; rfl
      rw [e3]
      clear e3
      go_enter Tryf.func61, Tryf.ntmps61
      go_wp2
      go_ret
      exact ⟨rfl, rfl⟩
    · have e3 : isNu r = false := by unfold isNu; rw [decide_eq_true h1, decide_eq_false h2]; rfl
      rw [e3]
      clear e3
      have h2' : decide (r ≤ 57) = false := decide_eq_false h2
      go_enter Tryf.func61, Tryf.ntmps61
      go_wp2
      go_ret
      exact ⟨rfl, rfl⟩
  · have e3 : isNu r = false := by unfold isNu; rw [decide_eq_false h1]; rfl
    rw [e3]
    clear e3
    have h1' : decide (48 ≤ r) = false := decide_eq_false h1
    go_enter Tryf.func61, Tryf.ntmps61
    go_wp2
    go_ret
    exact ⟨rfl, rfl⟩

def idF (r : Int) : Bool := isUp r || isLo r || r == 95
theorem idF_calls (r : Int) (w : World) : Calls Tryf.prog 27 #[.int .i32 r] w fun e w' => e = .returned (.bool (idF r)) ∧ w = w' := by
  cases h1 : isUp r
  · have H1 := Lib.hid h1
    cases h2 : isLo r
    · have H2 := Lib.hid h2
      have e3 : idF r = (r == 95) := by unfold idF; rw [h1, h2]; rfl
      rw [e3]
      clear e3 h1 h2
      go_enter Tryf.func27, Tryf.ntmps27
      go_wp2_with (first | (go_at_call 42; refine (isUp_calls r _).mono ?_; rw [H1.out]; rintro e w' ⟨rfl, rfl⟩) | (go_at_call 43; refine (isLo_calls r _).mono ?_; rw [H2.out]; rintro e w' ⟨rfl, rfl⟩))
      go_ret
      exact ⟨rfl, rfl⟩
    · have H2 := Lib.hid h2
      have e3 : idF r = true := by unfold idF; rw [h1, h2]; rfl
      rw [e3]
      clear e3 h1 h2
      go_enter Tryf.func27, Tryf.ntmps27
      go_wp2_with (first | (go_at_call 42; refine (isUp_calls r _).mono ?_; rw [H1.out]; rintro e w' ⟨rfl, rfl⟩) | (go_at_call 43; refine (isLo_calls r _).mono ?_; rw [H2.out]; rintro e w' ⟨rfl, rfl⟩))
      go_ret
      exact ⟨rfl, rfl⟩
  · have H1 := Lib.hid h1
    have e3 : idF r = true := by unfold idF; rw [h1]; rfl
    rw [e3]
    clear e3 h1
    go_enter Tryf.func27, Tryf.ntmps27
    go_wp2_with (go_at_call 42; refine (isUp_calls r _).mono ?_; rw [H1.out]; rintro e w' ⟨rfl, rfl⟩)
    go_ret
    exact ⟨rfl, rfl⟩

def idC (r : Int) : Bool := idF r || isNu r
theorem idC_calls (r : Int) (w : World) : Calls Tryf.prog 44 #[.int .i32 r] w fun e w' => e = .returned (.bool (idC r)) ∧ w = w' := by
  cases h1 : idF r
  · have H1 := Lib.hid h1
    have e3 : idC r = isNu r := by unfold idC; rw [h1]; rfl
    rw [e3]
    clear e3 h1
    go_enter Tryf.func44, Tryf.ntmps44
    go_wp2_with (first | (go_at_call 27; refine (idF_calls r _).mono ?_; rw [H1.out]; rintro e w' ⟨rfl, rfl⟩) | (go_at_call 61; refine (isNu_calls r _).mono ?_; rintro e w' ⟨rfl, rfl⟩))
    go_ret
    exact ⟨rfl, rfl⟩
  · have H1 := Lib.hid h1
    have e3 : idC r = true := by unfold idC; rw [h1]; rfl
    rw [e3]
    clear e3 h1
    go_enter Tryf.func44, Tryf.ntmps44
    go_wp2_with (go_at_call 27; refine (idF_calls r _).mono ?_; rw [H1.out]; rintro e w' ⟨rfl, rfl⟩)
    go_ret
    exact ⟨rfl, rfl⟩

/-- The kind of a word: a keyword's, or IDENTIFIER. -/
def kwKind (s : ByteArray) : Int :=
  if (s.toList == [97, 115, 115, 101, 114, 116]) = true then 18 else
  if (s.toList == [101, 108, 115, 101]) = true then 19 else
  if (s.toList == [101, 114, 114, 111, 114]) = true then 20 else
  if (s.toList == [102, 97, 108, 115, 101]) = true then 21 else
  if (s.toList == [102, 111, 114]) = true then 22 else
  if (s.toList == [102, 117, 110, 99, 116, 105, 111, 110]) = true then 23 else
  if (s.toList == [105, 102]) = true then 24 else
  if (s.toList == [105, 109, 112, 111, 114, 116]) = true then 25 else
  if (s.toList == [105, 109, 112, 111, 114, 116, 115, 116, 114]) = true then 26 else
  if (s.toList == [105, 109, 112, 111, 114, 116, 98, 105, 110]) = true then 27 else
  if (s.toList == [105, 110]) = true then 28 else
  if (s.toList == [108, 111, 99, 97, 108]) = true then 29 else
  if (s.toList == [110, 117, 108, 108]) = true then 30 else
  if (s.toList == [115, 101, 108, 102]) = true then 31 else
  if (s.toList == [115, 117, 112, 101, 114]) = true then 32 else
  if (s.toList == [116, 97, 105, 108, 115, 116, 114, 105, 99, 116]) = true then 33 else
  if (s.toList == [116, 104, 101, 110]) = true then 34 else
  if (s.toList == [116, 114, 117, 101]) = true then 35 else 10

set_option maxHeartbeats 3200000 in
set_option maxRecDepth 100000 in
theorem kw_calls (s : ByteArray) (w : World) : Calls Tryf.prog 45 #[.string s] w fun e w' => e = .returned (.int .i64 (kwKind s)) ∧ w = w' := by
  go_enter Tryf.func45, Tryf.ntmps45
  go_wp2
  all_goals go_ret
  all_goals exact ⟨by simp [kwKind, *], rfl⟩

end Go.Proofs.YthohpccmleodpaaFmt
