/-
  The lexer's state in memory; peek and next.
-/
import Derived.Test.YtkciiihffnimpaaFmtBuildSource
import Derived.StillTailTactics
import Derived.Deep.QuietTactic
import Derived.BigQuiet
import Derived.Lib.TrimUEq
import Derived.Deep.RegionHeld3
namespace Go.Proofs.YtkciiihffnimpaaFmt
open Go Go.RowKit Go.Shelf

/-- The lexer's thirteen cells. -/
structure LexSt where
  d : ByteArray
  im : ByteArray
  inp : ByteArray
  src : Value
  toks : Value
  fod : Value
  ts : Int
  tl : Int
  tc : Int
  fresh : Bool
  bn : Nat
  ln : Int
  ls : Int

def LexSt.cells (L : LexSt) : Array Value := #[.string L.d, .string L.im, .string L.inp, L.src, L.toks, L.fod, .int .i64 L.ts, .int .i64 L.tl, .int .i64 L.tc, .bool L.fresh, .int .i64 L.bn, .int .i64 L.ln, .int .i64 L.ls]
def LexAt (w : World) (a : Nat) (L : LexSt) : Prop := w.heap[a]? = some (.cells L.cells 59 (0, 0))

theorem LexAt.cell {w : World} {a : Nat} {L : LexSt} (h : LexAt w a L) (i : Nat) : w.cell? ⟨a, i, none⟩ = L.cells[i]? := by
  unfold LexAt at h
  simp [World.cell?, h]
theorem LexAt.free {w : World} {a : Nat} {L : LexSt} (h : LexAt w a L) (i : Nat) : w.frozen? ⟨a, i, none⟩ = false := by
  unfold LexAt at h
  simp [World.frozen?, h]
theorem LexAt.lt {w : World} {a : Nat} {L : LexSt} (h : LexAt w a L) : a < w.heap.size := (Array.getElem?_eq_some_iff.1 h).1

/-- What DecodeRuneInString hands back of the rest of the text. -/
theorem decodeGo_drop (s : ByteArray) (p : Nat) (h : p < s.size) : Lib.decodeGo (s.extract p s.size) = Utf8.decode s p := by
  have hsz : (s.extract p s.size).size = s.size - p := by simp [ByteArray.size_extract]
  unfold Lib.decodeGo
  rw [if_neg (by omega), ← Lib.decodeL_drop, ← Lib.decodeL_drop]
  have e : (s.extract p s.size).data.toList.drop 0 = s.data.toList.drop p := by
    rw [List.drop_zero, ByteArray.data_extract, Array.toList_extract]
    simp [List.take_of_length_le]
  rw [e]

end Go.Proofs.YtkciiihffnimpaaFmt
