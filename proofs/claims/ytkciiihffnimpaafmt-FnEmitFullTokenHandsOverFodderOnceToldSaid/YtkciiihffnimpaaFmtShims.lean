/-
  The laws' helpers on a lexer: lineCol; the shims that read or move it.
-/
import Derived.Test.YtkciiihffnimpaaFmtNl
namespace Go.Proofs.YtkciiihffnimpaaFmt
open Go Go.RowKit Go.Shelf

theorem zzMake (s : ByteArray) (hs : s.size ≤ 1099511627775) (w : World) : Calls Tryf.prog 9 #[.string s] w (Made w ⟨#[]⟩ ⟨#[]⟩ s) := by
  go_enter Tryf.func9, Tryf.ntmps9
  go_wp2_with fail
  refine (makeLexer ⟨#[]⟩ ⟨#[]⟩ s (by omega) _).mono ?_
  rintro e w' ⟨N, M, rfl, h⟩
  go_wp2
  go_ret
  exact ⟨N, M, rfl, h⟩

theorem zzNext (a : Nat) (L : LexSt) (w : World) (h : LexAt w a L) (hs : L.inp.size ≤ 1099511627775) (hl0 : 0 ≤ L.ln) (hl1 : L.ln ≤ 1099511627776) (hT : Lib.Utf8Tabs 0 1 w) :
    Calls Tryf.prog 10 #[.pointer (some ⟨a, 0, none⟩)] w fun e w' => e = .returned (.int .i32 L.rune) ∧ LexAt w' a L.step ∧ w.grownBy w' (some a) := by
  have H := Lib.hid h
  clear h
  go_enter Tryf.func10, Tryf.ntmps10
  go_wp2_with fail
  refine (next_any a L _ H.out (by omega) hl0 hl1 hT).mono ?_
  rintro e w' ⟨rfl, h1, h2⟩
  have H1 := Lib.hid h1
  clear h1
  go_wp2
  go_ret
  exact ⟨rfl, H1.out, h2⟩

theorem zzPos (a : Nat) (L : LexSt) (w : World) (h : LexAt w a L) :
    Calls Tryf.prog 11 #[.pointer (some ⟨a, 0, none⟩)] w fun e w' => e = .returned (.tuple #[.int .i64 L.bn, .int .i64 L.ln, .int .i64 L.ls]) ∧ ∃ n, w' = w.drewN n := by
  have c10 : w.cell? ⟨a, 10, none⟩ = some (.int .i64 L.bn) := h.cell 10
  have c11 : w.cell? ⟨a, 11, none⟩ = some (.int .i64 L.ln) := h.cell 11
  have c12 : w.cell? ⟨a, 12, none⟩ = some (.int .i64 L.ls) := h.cell 12
  clear h
  go_enter Tryf.func11, Tryf.ntmps11
  go_wp2
  go_quiet (fail)
  go_wp2
  go_ret3
  exact ⟨rfl, _, rfl⟩

theorem zzTokenStart (a : Nat) (L : LexSt) (w : World) (h : LexAt w a L) :
    Calls Tryf.prog 12 #[.pointer (some ⟨a, 0, none⟩)] w fun e w' => e = .returned (.tuple #[.int .i64 L.ts, .int .i64 L.tl, .int .i64 L.tc]) ∧ ∃ n, w' = w.drewN n := by
  have c6 : w.cell? ⟨a, 6, none⟩ = some (.int .i64 L.ts) := h.cell 6
  have c7 : w.cell? ⟨a, 7, none⟩ = some (.int .i64 L.tl) := h.cell 7
  have c8 : w.cell? ⟨a, 8, none⟩ = some (.int .i64 L.tc) := h.cell 8
  clear h
  go_enter Tryf.func12, Tryf.ntmps12
  go_wp2
  go_quiet (fail)
  go_wp2
  go_ret3
  exact ⟨rfl, _, rfl⟩

/-- What a slice's length is. -/
def lenOf : Value → Nat
  | .slice _ n _ => n
  | _ => 0
theorem zzFodderLen (a : Nat) (L : LexSt) (w : World) (h : LexAt w a L) (p : Option Addr) (n c : Nat) (hf : L.fod = .slice p n c) :
    Calls Tryf.prog 16 #[.pointer (some ⟨a, 0, none⟩)] w fun e w' => e = .returned (.int .i64 n) ∧ w = w' := by
  have c5 : w.cell? ⟨a, 5, none⟩ = some (.slice p n c) := by rw [← hf]; exact h.cell 5
  clear h hf
  go_enter Tryf.func16, Tryf.ntmps16
  go_wp2
  go_ret
  exact ⟨rfl, rfl⟩
theorem zzTokensLen (a : Nat) (L : LexSt) (w : World) (h : LexAt w a L) (p : Option Addr) (n c : Nat) (hf : L.toks = .slice p n c) :
    Calls Tryf.prog 17 #[.pointer (some ⟨a, 0, none⟩)] w fun e w' => e = .returned (.int .i64 n) ∧ w = w' := by
  have c4 : w.cell? ⟨a, 4, none⟩ = some (.slice p n c) := by rw [← hf]; exact h.cell 4
  clear h hf
  go_enter Tryf.func17, Tryf.ntmps17
  go_wp2
  go_ret
  exact ⟨rfl, rfl⟩

theorem tabs_kept {w w' : World} {a : Nat} (h : Lib.Utf8Tabs 0 1 w) (hg : w.grownBy w' (some a)) (h0 : 0 < w.heap.size) (h1 : 1 < w.heap.size) (ha0 : 0 ≠ a) (ha1 : 1 ≠ a) : Lib.Utf8Tabs 0 1 w' := by
  obtain ⟨t1, t2⟩ := h
  have b0 := hg.block _ h0 (fun e => ha0 (by cases e; rfl))
  have b1 := hg.block _ h1 (fun e => ha1 (by cases e; rfl))
  exact ⟨fun c hc => (World.cell?_of_block (a := ⟨0, c, none⟩) b0).trans (t1 c hc), fun i hi => ⟨(World.cell?_of_block (a := ⟨1, 2 * i, none⟩) b1).trans (t2 i hi).1, (World.cell?_of_block (a := ⟨1, 2 * i + 1, none⟩) b1).trans (t2 i hi).2⟩⟩
theorem tabs_below {w w' : World} (h : Lib.Utf8Tabs 0 1 w) (hg : Below w.heap.size w w') (h0 : 0 < w.heap.size) (h1 : 1 < w.heap.size) : Lib.Utf8Tabs 0 1 w' := by
  obtain ⟨t1, t2⟩ := h
  exact ⟨fun c hc => (hg.cell (p := ⟨0, c, none⟩) h0).trans (t1 c hc), fun i hi => ⟨(hg.cell (p := ⟨1, 2 * i, none⟩) h1).trans (t2 i hi).1, (hg.cell (p := ⟨1, 2 * i + 1, none⟩) h1).trans (t2 i hi).2⟩⟩
theorem tabs_lt {w : World} (h : Lib.Utf8Tabs 0 1 w) : 0 < w.heap.size ∧ 1 < w.heap.size := by
  obtain ⟨t1, t2⟩ := h
  have a1 := t1 0 (by decide)
  have a2 := (t2 0 (by decide)).1
  exact ⟨World.block_lt_of_cell? w ⟨0, 0, none⟩ a1, World.block_lt_of_cell? w ⟨1, 2 * 0, none⟩ a2⟩

end Go.Proofs.YtkciiihffnimpaaFmt
