/-
  isHorizontalWhitespace, isWhitespace; next.
-/
import Derived.Test.YthohpccmleodpaaFmtLexA
import Derived.Lib.BufferMore
namespace Go.Proofs.YthohpccmleodpaaFmt
open Go Go.RowKit Go.Shelf

def isHws (r : Int) : Bool := r == 32 || r == 9 || r == 13
def isWs (r : Int) : Bool := r == 10 || isHws r

theorem hws (r : Int) (w : World) : Calls Tryf.prog 55 #[.int .i32 r] w fun e w' => e = .returned (.bool (isHws r)) ∧ w = w' := by
  by_cases h1 : r = 32
  · subst h1
    go_enter Tryf.func55, Tryf.ntmps55
    go_wp2
    go_ret
    exact ⟨rfl, rfl⟩
  by_cases h2 : r = 9
  · subst h2
    go_enter Tryf.func55, Tryf.ntmps55
    go_wp2
    go_ret
    exact ⟨rfl, rfl⟩
  have e1 : (r == 32) = false := beq_eq_false_iff_ne.2 h1
  have e2 : (r == 9) = false := beq_eq_false_iff_ne.2 h2
  have e3 : isHws r = (r == 13) := by unfold isHws; rw [e1, e2]; rfl
  rw [e3]
  clear e3
  go_enter Tryf.func55, Tryf.ntmps55
  go_wp2
  go_ret
  exact ⟨rfl, rfl⟩

theorem ws (r : Int) (w : World) : Calls Tryf.prog 34 #[.int .i32 r] w fun e w' => e = .returned (.bool (isWs r)) ∧ w = w' := by
  by_cases h1 : r = 10
  · subst h1
    go_enter Tryf.func34, Tryf.ntmps34
    go_wp2
    go_ret
    exact ⟨rfl, rfl⟩
  have e1 : (r == 10) = false := beq_eq_false_iff_ne.2 h1
  have e3 : isWs r = isHws r := by unfold isWs; rw [e1]; rfl
  rw [e3]
  clear e3
  go_enter Tryf.func34, Tryf.ntmps34
  go_wp2_with (go_at_call 55; refine (hws r _).mono ?_; rintro e w' ⟨rfl, rfl⟩)
  go_ret
  exact ⟨rfl, rfl⟩

/-- The rune under the cursor; -1 at the end. -/
def LexSt.rune (L : LexSt) : Int := if L.bn < L.inp.size then ((Utf8.decode L.inp L.bn).1 : Int) else -1

/-- The state after next. -/
def LexSt.step (L : LexSt) : LexSt :=
  if L.bn < L.inp.size then
    if (Utf8.decode L.inp L.bn).1 = 10 then { L with bn := L.bn + (Utf8.decode L.inp L.bn).2, ls := ((L.bn + (Utf8.decode L.inp L.bn).2 : Nat) : Int), ln := L.ln + 1, fresh := true }
    else { L with bn := L.bn + (Utf8.decode L.inp L.bn).2, fresh := L.fresh && isWs (Utf8.decode L.inp L.bn).1 }
  else L

theorem LexAt.setc {w : World} {a i : Nat} {cs : Array Value} {T : TypeId} (h : w.heap[a]? = some (.cells cs T (0, 0))) (v : Value) : (w.setCell ⟨a, i, none⟩ v).heap[a]? = some (.cells (cs.setIfInBounds i v) T (0, 0)) :=
  Lib.heap_setCell_same h v

set_option maxRecDepth 100000 in
theorem next_end (a : Nat) (L : LexSt) (w : World) (h : LexAt w a L) (hb : L.inp.size ≤ L.bn) :
    Calls Tryf.prog 18 #[.pointer (some ⟨a, 0, none⟩)] w fun e w' => e = .returned (.int .i32 (-1)) ∧ ∃ n, w' = w.drewN n := by
  have c2 : w.cell? ⟨a, 2, none⟩ = some (.string L.inp) := h.cell 2
  have c10 : w.cell? ⟨a, 10, none⟩ = some (.int .i64 L.bn) := h.cell 10
  have ht : decide (L.inp.size ≤ L.bn) = true := decide_eq_true hb
  clear h
  go_enter Tryf.func18, Tryf.ntmps18
  go_wp2
  go_quiet (fail)
  go_wp2
  go_ret
  exact ⟨rfl, _, rfl⟩

set_option maxHeartbeats 1600000 in
set_option maxRecDepth 100000 in
theorem next_in (a : Nat) (L : LexSt) (w : World) (h : LexAt w a L) (hb : L.bn < L.inp.size) (hs : L.inp.size ≤ 1099511627776) (hl0 : 0 ≤ L.ln) (hl1 : L.ln ≤ 1099511627776) (hT : Lib.Utf8Tabs 0 1 w) :
    Calls Tryf.prog 18 #[.pointer (some ⟨a, 0, none⟩)] w fun e w' => e = .returned (.int .i32 (Utf8.decode L.inp L.bn).1) ∧ LexAt w' a L.step ∧ w.grownBy w' (some a) := by
  have c2 : w.cell? ⟨a, 2, none⟩ = some (.string L.inp) := h.cell 2
  have c10 : w.cell? ⟨a, 10, none⟩ = some (.int .i64 L.bn) := h.cell 10
  have ht : decide (L.inp.size ≤ L.bn) = false := decide_eq_false (by omega)
  have hlt := h.lt
  have hle : L.bn ≤ L.inp.size := by omega
  have hwl := width_le L.inp L.bn hb
  go_enter Tryf.func18, Tryf.ntmps18
  go_wp2
  go_quiet (fail)
  go_wp2
  go_region_held3 (fun w' => w'.cell? ⟨a, 2, none⟩ = some (.string L.inp) ∧ w'.cell? ⟨a, 10, none⟩ = some (.int .i64 L.bn))
    (first | exact ⟨c2, c10⟩ | exact ⟨(hb1.cell (p := ⟨a, 2, none⟩) hlt).trans c2, (hb1.cell (p := ⟨a, 10, none⟩) hlt).trans c10⟩)
    (first | (go_at_call 35; refine (Tryf.utf8_DecodeRuneInString _ _ (by exact hT)).mono ?_; rintro e w1 ⟨rfl, hb1⟩))
  rw [decodeGo_drop _ _ hb]
  have h1 : LexAt w1 a L := (hb1.block a hlt).trans h
  have hg1 : w.grownBy w1 (some a) := grown_of_below ⟨hb1.os, hb1.tape, hb1.output, hb1.size, hb1.block⟩
  clear hb1 hT c2 c10
  have c9 : w1.cell? ⟨a, 9, none⟩ = some (.bool L.fresh) := h1.cell 9
  have c10 : w1.cell? ⟨a, 10, none⟩ = some (.int .i64 L.bn) := h1.cell 10
  have c11 : w1.cell? ⟨a, 11, none⟩ = some (.int .i64 L.ln) := h1.cell 11
  have c12 : w1.cell? ⟨a, 12, none⟩ = some (.int .i64 L.ls) := h1.cell 12
  have z9 := h1.free 9
  have z10 := h1.free 10
  have z11 := h1.free 11
  have z12 := h1.free 12
  have HH := Lib.hid h1
  clear h1 h
  generalize hr : (Utf8.decode L.inp L.bn).1 = r
  generalize hk : (Utf8.decode L.inp L.bn).2 = k at hwl
  have HR := Lib.hid hr
  have HK := Lib.hid hk
  clear hr hk
  by_cases h10 : r = 10
  · have hst : L.step = { L with bn := L.bn + k, ls := ((L.bn + k : Nat) : Int), ln := L.ln + 1, fresh := true } := by
      unfold LexSt.step; rw [if_pos hb, HR.out, if_pos h10, HK.out]
    have hrb : ((r : Int) == 10) = true := beq_iff_eq.2 (by omega)
    have HS := Lib.hid hst
    clear hst h10
    go_wp2
    go_ret
    refine ⟨by rw [HR.out]; rfl, ?_, ?_⟩
    · rw [HS.out]
      exact (LexAt.setc (LexAt.setc (LexAt.setc (LexAt.setc HH.out _) _) _) _).trans (by simp [LexSt.cells])
    · exact Lib.grownBy_setB (Lib.grownBy_setB (Lib.grownBy_setB (Lib.grownBy_setB hg1 _ _) _ _) _ _) _ _
  have hrb : ((r : Int) == 10) = false := beq_eq_false_iff_ne.2 (by omega)
  have hst : L.step = { L with bn := L.bn + k, fresh := L.fresh && isWs r } := by
    unfold LexSt.step; rw [if_pos hb, HR.out, if_neg h10, HK.out]
  have HS := Lib.hid hst
  clear hst h10
  cases hf : L.fresh
  · rw [hf] at c9
    have HF := Lib.hid hf
    clear hf
    go_wp2
    go_ret
    refine ⟨by rw [HR.out]; rfl, ?_, ?_⟩
    · rw [HS.out]
      exact (LexAt.setc HH.out _).trans (by simp [LexSt.cells, HF.out])
    · exact Lib.grownBy_setB hg1 _ _
  · rw [hf] at c9
    have HF := Lib.hid hf
    clear hf
    cases hw : isWs r
    · have HW := Lib.hid hw
      clear hw
      go_wp2_with (go_at_call 34; refine (ws r _).mono ?_; rw [HW.out]; rintro e w' ⟨rfl, rfl⟩)
      go_ret
      refine ⟨by rw [HR.out]; rfl, ?_, ?_⟩
      · rw [HS.out]
        exact (LexAt.setc (LexAt.setc HH.out _) _).trans (by simp [LexSt.cells, HF.out, HW.out])
      · exact Lib.grownBy_setB (Lib.grownBy_setB hg1 _ _) _ _
    · have HW := Lib.hid hw
      clear hw
      go_wp2_with (go_at_call 34; refine (ws r _).mono ?_; rw [HW.out]; rintro e w' ⟨rfl, rfl⟩)
      go_ret
      refine ⟨by rw [HR.out]; rfl, ?_, ?_⟩
      · rw [HS.out]
        exact (LexAt.setc HH.out _).trans (by simp [LexSt.cells, HF.out, HW.out])
      · exact Lib.grownBy_setB hg1 _ _

end Go.Proofs.YthohpccmleodpaaFmt
