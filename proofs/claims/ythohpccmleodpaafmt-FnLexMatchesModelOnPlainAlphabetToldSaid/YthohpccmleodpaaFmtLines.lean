/-
  The lines that BuildSource makes of a text, as a plain function; no program is named here.
-/
import Derived.Lib.RuneLoops
import Derived.Lib.RuneCount
import Derived.Laws.RangeAny
namespace Go.Proofs.YthohpccmleodpaaFmt
open Go

/-- What BuildSource collects from place pos on, 'cur' being held in its buffer. -/
def linesFrom (s : ByteArray) : Nat → Nat → List UInt8 → List (List UInt8)
  | 0, _, cur => [cur ++ [10]]
  | f + 1, pos, cur =>
    if pos < s.size then
      if (Utf8.decode s pos).1 = 10 then (cur ++ Lib.encodeRune (Utf8.decode s pos).1) :: linesFrom s f (pos + (Utf8.decode s pos).2) []
      else linesFrom s f (pos + (Utf8.decode s pos).2) (cur ++ Lib.encodeRune (Utf8.decode s pos).1)
    else [cur ++ [10]]

def srcLines (s : ByteArray) : List (List UInt8) := linesFrom s s.size 0 []

theorem linesFrom_end (s : ByteArray) (f pos : Nat) (cur : List UInt8) (h : ¬ pos < s.size) : linesFrom s f pos cur = [cur ++ [10]] := by cases f <;> simp [linesFrom, h]
theorem linesFrom_nl (s : ByteArray) (f pos : Nat) (cur : List UInt8) (h : pos < s.size) (hn : (Utf8.decode s pos).1 = 10) :
    linesFrom s (f + 1) pos cur = (cur ++ Lib.encodeRune (Utf8.decode s pos).1) :: linesFrom s f (pos + (Utf8.decode s pos).2) [] := by rw [linesFrom, if_pos h, if_pos hn]
theorem linesFrom_other (s : ByteArray) (f pos : Nat) (cur : List UInt8) (h : pos < s.size) (hn : ¬ (Utf8.decode s pos).1 = 10) :
    linesFrom s (f + 1) pos cur = linesFrom s f (pos + (Utf8.decode s pos).2) (cur ++ Lib.encodeRune (Utf8.decode s pos).1) := by rw [linesFrom, if_pos h, if_neg hn]

def strV (l : List UInt8) : Value := .string ⟨l.toArray⟩

end Go.Proofs.YthohpccmleodpaaFmt
