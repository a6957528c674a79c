/-
  peek and next at any state; makeLexer; location; resetTokenStart.
-/
import Derived.Test.YthohpccmleodpaaFmtLexB
import Derived.Laws.ResultCell
namespace Go.Proofs.YthohpccmleodpaaFmt
open Go Go.RowKit Go.Shelf

theorem LexSt.step_end {L : LexSt} (h : L.inp.size ≤ L.bn) : L.step = L := by unfold LexSt.step; rw [if_neg (by omega)]
theorem LexSt.rune_end {L : LexSt} (h : L.inp.size ≤ L.bn) : L.rune = -1 := by unfold LexSt.rune; rw [if_neg (by omega)]
theorem LexSt.rune_in {L : LexSt} (h : L.bn < L.inp.size) : L.rune = ((Utf8.decode L.inp L.bn).1 : Int) := by unfold LexSt.rune; rw [if_pos h]

theorem next_any (a : Nat) (L : LexSt) (w : World) (h : LexAt w a L) (hs : L.inp.size ≤ 1099511627776) (hl0 : 0 ≤ L.ln) (hl1 : L.ln ≤ 1099511627776) (hT : Lib.Utf8Tabs 0 1 w) :
    Calls Tryf.prog 18 #[.pointer (some ⟨a, 0, none⟩)] w fun e w' => e = .returned (.int .i32 L.rune) ∧ LexAt w' a L.step ∧ w.grownBy w' (some a) := by
  by_cases hb : L.bn < L.inp.size
  · rw [LexSt.rune_in hb]
    exact next_in a L w h hb hs hl0 hl1 hT
  · refine (next_end a L w h (by omega)).mono ?_
    rintro e w' ⟨rfl, n, rfl⟩
    rw [LexSt.rune_end (by omega), LexSt.step_end (by omega)]
    exact ⟨rfl, h, grown_drewN (World.grownBy.refl w _) n⟩

theorem peek_any (a : Nat) (L : LexSt) (w : World) (h : LexAt w a L) (hT : Lib.Utf8Tabs 0 1 w) :
    Calls Tryf.prog 17 #[.pointer (some ⟨a, 0, none⟩)] w fun e w' => e = .returned (.int .i32 L.rune) ∧ Below w.heap.size w w' := by
  by_cases hb : L.bn < L.inp.size
  · rw [LexSt.rune_in hb]
    exact peek_in a L w h hb hT
  · refine (peek_end a L w h (by omega)).mono ?_
    rintro e w' ⟨rfl, n, rfl⟩
    rw [LexSt.rune_end (by omega)]
    exact ⟨rfl, drewN_below (Below.refl _ _) n⟩

/-- A fresh lexer. -/
def initSt (d im s : ByteArray) (src : Value) : LexSt := { d := d, im := im, inp := s, src := src, toks := .slice none 0 0, fod := .slice none 0 0, ts := 0, tl := 1, tc := 1, fresh := true, bn := 0, ln := 1, ls := 0 }

def Made (w : World) (d im s : ByteArray) (e : Ending) (w' : World) : Prop :=
  ∃ (N M : Nat), e = .returned (.pointer (some ⟨N, 0, none⟩)) ∧ w.heap.size ≤ N ∧ LexAt w' N (initSt d im s (.pointer (some ⟨M, 0, none⟩))) ∧ Below w.heap.size w w'

set_option maxRecDepth 100000 in
theorem makeLexer (d im s : ByteArray) (hs : s.size ≤ 1099511627776) (w : World) :
    Calls Tryf.prog 15 #[.string d, .string im, .string s] w (Made w d im s) := by
  go_enter Tryf.func15, Tryf.ntmps15
  go_wp2_with (go_at_call 33; refine (buildSource d s hs _).mono ?_; rintro e w1 ⟨M, v, rfl, hM, hM1, hown, hb⟩)
  go_ret
  exact ⟨w1.heap.size, M, rfl, hb.size, heap_alloc_new w1 _, hb.alloc hb.size _⟩

/-- The cursor's location. -/
def LexSt.loc1 (L : LexSt) : Int := L.ln
def LexSt.loc2 (L : LexSt) : Int := L.bn - L.ls + 1
def LexSt.reset (L : LexSt) : LexSt := { L with ts := L.bn, tl := L.loc1, tc := L.loc2 }

theorem locFromPos (b l s : Int) (hb0 : 0 ≤ b) (hb1 : b ≤ 1099511627776) (hs0 : 0 ≤ s) (hs1 : s ≤ b) (w : World) :
    Calls Tryf.prog 39 #[.agg #[.int .i64 b, .int .i64 l, .int .i64 s]] w fun e w' => e = .returned (.agg #[.int .i64 l, .int .i64 (b - s + 1)]) ∧ Below w.heap.size w w' := by
  go_enter Tryf.func39, Tryf.ntmps39
  go_wp2
  exact bodyPost_ret (v := .agg #[.int .i64 l, .int .i64 (b - s + 1)]) (by simp [results, Tryf.results39, go_sem]) rfl ⟨rfl, ((Below.refl _ _).alloc (Nat.le_refl _) _).alloc (by simp) _⟩

theorem location (a : Nat) (L : LexSt) (w : World) (h : LexAt w a L) (hb1 : L.bn ≤ 1099511627776) (hs0 : 0 ≤ L.ls) (hs1 : L.ls ≤ L.bn) :
    Calls Tryf.prog 23 #[.pointer (some ⟨a, 0, none⟩)] w fun e w' => e = .returned (.agg #[.int .i64 L.loc1, .int .i64 L.loc2]) ∧ Below w.heap.size w w' := by
  have c10 : w.cell? ⟨a, 10, none⟩ = some (.int .i64 L.bn) := h.cell 10
  have c11 : w.cell? ⟨a, 11, none⟩ = some (.int .i64 L.ln) := h.cell 11
  have c12 : w.cell? ⟨a, 12, none⟩ = some (.int .i64 L.ls) := h.cell 12
  have hlt := h.lt
  clear h
  go_enter Tryf.func23, Tryf.ntmps23
  go_wp2_with fail
  refine (locFromPos _ _ _ (by omega) (by omega) hs0 hs1 _).mono ?_
  rintro e w1 ⟨rfl, hb⟩
  have q0 : w1.cell? ⟨w.heap.size, 0, none⟩ = some (.int .i64 0) := (hb.cell (p := ⟨w.heap.size, 0, none⟩) (by simp)).trans (by go_simp)
  have q1 : w1.cell? ⟨w.heap.size, 1, none⟩ = some (.int .i64 0) := (hb.cell (p := ⟨w.heap.size, 1, none⟩) (by simp)).trans (by go_simp)
  have f0 : w1.frozen? ⟨w.heap.size, 0, none⟩ = false := (hb.frozen (p := ⟨w.heap.size, 0, none⟩) (by simp)).trans (by go_simp)
  have f1 : w1.frozen? ⟨w.heap.size, 1, none⟩ = false := (hb.frozen (p := ⟨w.heap.size, 1, none⟩) (by simp)).trans (by go_simp)
  have hb' : Below w.heap.size w w1 := ((Below.refl _ w).alloc (Nat.le_refl _) _).trans (hb.mono (by simp))
  clear hb
  go_wp2
  exact bodyPost_ret (v := .agg #[.int .i64 L.loc1, .int .i64 L.loc2]) (by simp [results, Tryf.results23, go_sem, q0, q1, LexSt.loc1, LexSt.loc2]) rfl ⟨rfl, (hb'.setCell (Nat.le_refl _) _).setCell (Nat.le_refl _) _⟩

set_option maxRecDepth 100000 in
theorem resetTokenStart (a : Nat) (L : LexSt) (w : World) (h : LexAt w a L) (hb1 : L.bn ≤ 1099511627776) (hs0 : 0 ≤ L.ls) (hs1 : L.ls ≤ L.bn) :
    Calls Tryf.prog 19 #[.pointer (some ⟨a, 0, none⟩)] w fun e w' => e = .returned (.tuple #[]) ∧ LexAt w' a L.reset ∧ w.grownBy w' (some a) := by
  have c6 : w.cell? ⟨a, 6, none⟩ = some (.int .i64 L.ts) := h.cell 6
  have c10 : w.cell? ⟨a, 10, none⟩ = some (.int .i64 L.bn) := h.cell 10
  have z6 := h.free 6
  have h1 : LexAt (w.setCell ⟨a, 6, none⟩ (.int .i64 L.bn)) a { L with ts := L.bn } := (LexAt.setc h _).trans (by simp [LexSt.cells])
  have HH := Lib.hid h1
  have hlt := h.lt
  clear h h1
  go_enter Tryf.func19, Tryf.ntmps19
  go_wp2_with fail
  refine (location a { L with ts := L.bn } _ HH.out hb1 hs0 hs1).mono ?_
  rintro e w1 ⟨rfl, hb⟩
  have h2 : LexAt w1 a { L with ts := L.bn } := (hb.block a (by simpa using hlt)).trans HH.out
  have c7 : w1.cell? ⟨a, 7, none⟩ = some (.int .i64 L.tl) := h2.cell 7
  have c8 : w1.cell? ⟨a, 8, none⟩ = some (.int .i64 L.tc) := h2.cell 8
  have z7 := h2.free 7
  have z8 := h2.free 8
  have H2 := Lib.hid h2
  clear h2
  go_wp2
  go_end0
  refine ⟨rfl, ?_, ?_⟩
  · exact (LexAt.setc (LexAt.setc H2.out _) _).trans (by simp [LexSt.cells, LexSt.reset, LexSt.loc1, LexSt.loc2])
  · exact Lib.grownBy_setB (Lib.grownBy_setB (Lib.grownBy_below (Lib.grownBy_setB (World.grownBy.refl w _) _ _) hb) _ _) _ _

end Go.Proofs.YthohpccmleodpaaFmt
