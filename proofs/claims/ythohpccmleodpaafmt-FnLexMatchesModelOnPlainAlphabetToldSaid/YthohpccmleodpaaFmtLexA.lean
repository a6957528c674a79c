/-
  The lexer's state in memory; peek and next.
-/
import Derived.Test.YthohpccmleodpaaFmtBuildSource
import Derived.StillTailTactics
import Derived.Deep.QuietTactic
import Derived.BigQuiet
import Derived.Lib.TrimUEq
import Derived.Deep.RegionHeld3
namespace Go.Proofs.YthohpccmleodpaaFmt
open Go Go.RowKit Go.Shelf

/-- The lexer's thirteen cells. -/
structure LexSt where
  d : ByteArray
  im : ByteArray
  inp : ByteArray
  src : Value
  toks : Value
  fod : Value
  ts : Int
  tl : Int
  tc : Int
  fresh : Bool
  bn : Nat
  ln : Int
  ls : Int

def LexSt.cells (L : LexSt) : Array Value := #[.string L.d, .string L.im, .string L.inp, L.src, L.toks, L.fod, .int .i64 L.ts, .int .i64 L.tl, .int .i64 L.tc, .bool L.fresh, .int .i64 L.bn, .int .i64 L.ln, .int .i64 L.ls]
def LexAt (w : World) (a : Nat) (L : LexSt) : Prop := w.heap[a]? = some (.cells L.cells 68 (0, 0))

theorem LexAt.cell {w : World} {a : Nat} {L : LexSt} (h : LexAt w a L) (i : Nat) : w.cell? ⟨a, i, none⟩ = L.cells[i]? := by
  unfold LexAt at h
  simp [World.cell?, h]
theorem LexAt.free {w : World} {a : Nat} {L : LexSt} (h : LexAt w a L) (i : Nat) : w.frozen? ⟨a, i, none⟩ = false := by
  unfold LexAt at h
  simp [World.frozen?, h]
theorem LexAt.lt {w : World} {a : Nat} {L : LexSt} (h : LexAt w a L) : a < w.heap.size := (Array.getElem?_eq_some_iff.1 h).1

/-- What DecodeRuneInString hands back of the rest of the text. -/
theorem decodeGo_drop (s : ByteArray) (p : Nat) (h : p < s.size) : Lib.decodeGo (s.extract p s.size) = Utf8.decode s p := by
  have hsz : (s.extract p s.size).size = s.size - p := by simp [ByteArray.size_extract]
  unfold Lib.decodeGo
  rw [if_neg (by omega), ← Lib.decodeL_drop, ← Lib.decodeL_drop]
  have e : (s.extract p s.size).data.toList.drop 0 = s.data.toList.drop p := by
    rw [List.drop_zero, ByteArray.data_extract, Array.toList_extract]
    simp [List.take_of_length_le]
  rw [e]

set_option maxRecDepth 100000 in
theorem peek_end (a : Nat) (L : LexSt) (w : World) (h : LexAt w a L) (hb : L.inp.size ≤ L.bn) :
    Calls Tryf.prog 17 #[.pointer (some ⟨a, 0, none⟩)] w fun e w' => e = .returned (.int .i32 (-1)) ∧ ∃ n, w' = w.drewN n := by
  have c2 : w.cell? ⟨a, 2, none⟩ = some (.string L.inp) := h.cell 2
  have c10 : w.cell? ⟨a, 10, none⟩ = some (.int .i64 L.bn) := h.cell 10
  have ht : decide (L.inp.size ≤ L.bn) = true := decide_eq_true hb
  clear h
  go_enter Tryf.func17, Tryf.ntmps17
  go_wp2
  go_quiet (fail)
  go_wp2
  go_ret
  exact ⟨rfl, _, rfl⟩

set_option maxRecDepth 100000 in
theorem peek_in (a : Nat) (L : LexSt) (w : World) (h : LexAt w a L) (hb : L.bn < L.inp.size) (hT : Lib.Utf8Tabs 0 1 w) :
    Calls Tryf.prog 17 #[.pointer (some ⟨a, 0, none⟩)] w fun e w' => e = .returned (.int .i32 (Utf8.decode L.inp L.bn).1) ∧ Below w.heap.size w w' := by
  have c2 : w.cell? ⟨a, 2, none⟩ = some (.string L.inp) := h.cell 2
  have c10 : w.cell? ⟨a, 10, none⟩ = some (.int .i64 L.bn) := h.cell 10
  have ht : decide (L.inp.size ≤ L.bn) = false := decide_eq_false (by omega)
  have hlt := h.lt
  have hle : L.bn ≤ L.inp.size := by omega
  clear h
  go_enter Tryf.func17, Tryf.ntmps17
  go_wp2
  go_quiet (fail)
  go_wp2
  go_region_held3 (fun w' => w'.cell? ⟨a, 2, none⟩ = some (.string L.inp) ∧ w'.cell? ⟨a, 10, none⟩ = some (.int .i64 L.bn))
    (first | exact ⟨c2, c10⟩ | exact ⟨(hb1.cell (p := ⟨a, 2, none⟩) hlt).trans c2, (hb1.cell (p := ⟨a, 10, none⟩) hlt).trans c10⟩)
    (first | (go_at_call 35; refine (Tryf.utf8_DecodeRuneInString _ _ (by exact hT)).mono ?_; rintro e w1 ⟨rfl, hb1⟩))
  go_wp2
  go_ret
  rw [decodeGo_drop _ _ hb]
  exact ⟨rfl, ⟨hb1.os, hb1.tape, hb1.output, hb1.size, hb1.block⟩⟩

end Go.Proofs.YthohpccmleodpaaFmt
