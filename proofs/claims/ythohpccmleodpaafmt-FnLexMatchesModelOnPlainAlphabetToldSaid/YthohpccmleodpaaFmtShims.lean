/-
  The laws' helpers on a lexer: lineCol; the shims that read or move it.
-/
import Derived.Test.YthohpccmleodpaaFmtNl
namespace Go.Proofs.YthohpccmleodpaaFmt
open Go Go.RowKit Go.Shelf

/-- What a slice's length is. -/
def lenOf : Value → Nat
  | .slice _ n _ => n
  | _ => 0
theorem tabs_kept {w w' : World} {a : Nat} (h : Lib.Utf8Tabs 0 1 w) (hg : w.grownBy w' (some a)) (h0 : 0 < w.heap.size) (h1 : 1 < w.heap.size) (ha0 : 0 ≠ a) (ha1 : 1 ≠ a) : Lib.Utf8Tabs 0 1 w' := by
  obtain ⟨t1, t2⟩ := h
  have b0 := hg.block _ h0 (fun e => ha0 (by cases e; rfl))
  have b1 := hg.block _ h1 (fun e => ha1 (by cases e; rfl))
  exact ⟨fun c hc => (World.cell?_of_block (a := ⟨0, c, none⟩) b0).trans (t1 c hc), fun i hi => ⟨(World.cell?_of_block (a := ⟨1, 2 * i, none⟩) b1).trans (t2 i hi).1, (World.cell?_of_block (a := ⟨1, 2 * i + 1, none⟩) b1).trans (t2 i hi).2⟩⟩
theorem tabs_below {w w' : World} (h : Lib.Utf8Tabs 0 1 w) (hg : Below w.heap.size w w') (h0 : 0 < w.heap.size) (h1 : 1 < w.heap.size) : Lib.Utf8Tabs 0 1 w' := by
  obtain ⟨t1, t2⟩ := h
  exact ⟨fun c hc => (hg.cell (p := ⟨0, c, none⟩) h0).trans (t1 c hc), fun i hi => ⟨(hg.cell (p := ⟨1, 2 * i, none⟩) h1).trans (t2 i hi).1, (hg.cell (p := ⟨1, 2 * i + 1, none⟩) h1).trans (t2 i hi).2⟩⟩
theorem tabs_lt {w : World} (h : Lib.Utf8Tabs 0 1 w) : 0 < w.heap.size ∧ 1 < w.heap.size := by
  obtain ⟨t1, t2⟩ := h
  have a1 := t1 0 (by decide)
  have a2 := (t2 0 (by decide)).1
  exact ⟨World.block_lt_of_cell? w ⟨0, 0, none⟩ a1, World.block_lt_of_cell? w ⟨1, 2 * 0, none⟩ a2⟩

end Go.Proofs.YthohpccmleodpaaFmt
