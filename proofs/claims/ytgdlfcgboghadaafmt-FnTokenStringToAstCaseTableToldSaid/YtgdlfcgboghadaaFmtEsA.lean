/-
  Small contracts for tokenStringToAst: a fresh node's base; a rune's halves; an error's text.
-/
import Derived.Test.YtgdlfcgboghadaaFmtEsU
import Derived.IntWalk
import Derived.Laws.Rows
import Derived.Deep.QuietTactic
import Derived.BigQuiet
namespace Go.Proofs.YtgdlfcgboghadaaFmt
open Go Go.RowKit Go.Shelf Go.Extern.Stop Go.Stop

theorem get_old {w : World} {o : Obj} {i : Nat} (h : i < w.heap.size) : (w.alloc o).heap[i]? = w.heap[i]? := Below.heap_alloc w o i h
theorem get_new {w : World} {o : Obj} {i : Nat} (h : i = w.heap.size) : (w.alloc o).heap[i]? = some o := by subst h; exact heap_alloc_new w o
theorem frozen_of {w : World} {b : Nat} {C : Array Value} {t : TypeId} (h : w.heap[b]? = some (.cells C t (0, 0))) (i : Nat) : w.frozen? ⟨b, i, none⟩ = false := by simp [World.frozen?, h]

theorem nbLoc (b k : Nat) (w : World) :
    Calls Tryf.prog 27 #[.pointer (some ⟨b, k, none⟩)] w fun e w' => e = .returned (.pointer (some ⟨b, k + 3, none⟩)) ∧ w = w' := by
  go_enter Tryf.func27, Tryf.ntmps27
  go_wp2
  go_ret
  exact ⟨rfl, rfl⟩

theorem newNB (a : Option Addr) (n c : Nat) (w : World) :
    Calls Tryf.prog 50 #[.agg #[.pointer none, .string ⟨#[]⟩, .int .i64 0, .int .i64 0, .int .i64 0, .int .i64 0], .slice none 0 0, .slice a n c] w fun e w' => e = .returned (.agg #[.slice none 0 0, .pointer none, .slice a n c, .pointer none, .string ⟨#[]⟩, .int .i64 0, .int .i64 0, .int .i64 0, .int .i64 0]) ∧ Below w.heap.size w w' := by
  go_enter Tryf.func50, Tryf.ntmps50
  go_wp2
  (try simp only [Exit.inBlock, Exit.then])
  refine bodyPost_ret (results_cell_row rfl _ _ _ _ _ _ _ rfl (get_new (by simp)) Tryf.underlying57 rfl (by kernel_rfl)) rfl ?_
  exact ⟨rfl, by refine Below.alloc (Below.alloc (Below.refl _ w) (Nat.le_refl _) _) (by simp) _⟩
set_option maxRecDepth 100000 in
theorem newLoc (w : World) :
    Calls Tryf.prog 24 #[.agg #[.pointer none, .string ⟨#[]⟩, .int .i64 0, .int .i64 0, .int .i64 0, .int .i64 0], .slice none 0 0] w fun e w' => (∃ b, e = .returned (.agg #[.slice none 0 0, .pointer none, .slice (some ⟨b, 0, none⟩) 0 0, .pointer none, .string ⟨#[]⟩, .int .i64 0, .int .i64 0, .int .i64 0, .int .i64 0])) ∧ Below w.heap.size w w' := by
  go_enter Tryf.func24, Tryf.ntmps24
  go_wp2_with fail
  generalize hX : ((w.alloc (.cells #[.pointer none, .string ⟨#[]⟩, .int .i64 0, .int .i64 0, .int .i64 0, .int .i64 0] 44 (0, 0))).alloc
    (.cells #[.slice none 0 0, .pointer none, .slice none 0 0, .pointer none, .string ⟨#[]⟩, .int .i64 0, .int .i64 0, .int .i64 0, .int .i64 0] 57 (0, 0))).alloc (.cells #[] 165 (0, 0)) = X
  have hr : X.heap[w.heap.size + 1]? = some (.cells #[.slice none 0 0, .pointer none, .slice none 0 0, .pointer none, .string ⟨#[]⟩, .int .i64 0, .int .i64 0, .int .i64 0, .int .i64 0] 57 (0, 0)) := by
    rw [← hX]; exact (get_old (by simp)).trans (get_new (by simp))
  have bX : Below w.heap.size w X := by rw [← hX]; exact Below.alloc (Below.alloc (Below.alloc (Below.refl _ w) (Nat.le_refl _) _) (by simp) _) (by simp; omega) _
  clear hX
  refine (newNB _ _ _ X).mono ?_
  rintro e w' ⟨rfl, hb⟩
  have hr' := (hb.block _ (Array.getElem?_eq_some_iff.1 hr).1).trans hr
  have HB := Lib.hid (bX.trans (hb.mono bX.size))
  have HR := Lib.hid hr'
  have k0 : w'.cell? ⟨w.heap.size + 1, 0, none⟩ = some (.slice none 0 0) := (cell_of_row _ _ 0 _ _ _ hr').trans rfl
  have k1 : w'.cell? ⟨w.heap.size + 1, 1, none⟩ = some (.pointer none) := (cell_of_row _ _ 1 _ _ _ hr').trans rfl
  have k2 : w'.cell? ⟨w.heap.size + 1, 2, none⟩ = some (.slice none 0 0) := (cell_of_row _ _ 2 _ _ _ hr').trans rfl
  have k3 : w'.cell? ⟨w.heap.size + 1, 3, none⟩ = some (.pointer none) := (cell_of_row _ _ 3 _ _ _ hr').trans rfl
  have k4 : w'.cell? ⟨w.heap.size + 1, 4, none⟩ = some (.string ⟨#[]⟩) := (cell_of_row _ _ 4 _ _ _ hr').trans rfl
  have k5 : w'.cell? ⟨w.heap.size + 1, 5, none⟩ = some (.int .i64 0) := (cell_of_row _ _ 5 _ _ _ hr').trans rfl
  have k6 : w'.cell? ⟨w.heap.size + 1, 6, none⟩ = some (.int .i64 0) := (cell_of_row _ _ 6 _ _ _ hr').trans rfl
  have k7 : w'.cell? ⟨w.heap.size + 1, 7, none⟩ = some (.int .i64 0) := (cell_of_row _ _ 7 _ _ _ hr').trans rfl
  have k8 : w'.cell? ⟨w.heap.size + 1, 8, none⟩ = some (.int .i64 0) := (cell_of_row _ _ 8 _ _ _ hr').trans rfl
  have zf : ∀ j, w'.frozen? ⟨w.heap.size + 1, j, none⟩ = false := frozen_of hr'
  clear hr hr' hb bX
  go_wp2
  have g0 := Lib.heap_setCell_same (i := 0) HR.out (.slice none 0 0)
  have g1 := Lib.heap_setCell_same (i := 1) g0 (.pointer none)
  have g2 := Lib.heap_setCell_same (i := 2) g1 (.slice (some ⟨w.heap.size + 1 + 1, 0, none⟩) 0 0)
  have g3 := Lib.heap_setCell_same (i := 3) g2 (.pointer none)
  have g4 := Lib.heap_setCell_same (i := 4) g3 (.string ⟨#[]⟩)
  have g5 := Lib.heap_setCell_same (i := 5) g4 (.int .i64 0)
  have g6 := Lib.heap_setCell_same (i := 6) g5 (.int .i64 0)
  have g7 := Lib.heap_setCell_same (i := 7) g6 (.int .i64 0)
  have g8 := Lib.heap_setCell_same (i := 8) g7 (.int .i64 0)
  have g9 := g8.trans (show _ = some (Obj.cells #[.slice none 0 0, .pointer none, .slice (some ⟨w.heap.size + 1 + 1, 0, none⟩) 0 0, .pointer none, .string ⟨#[]⟩, .int .i64 0, .int .i64 0, .int .i64 0, .int .i64 0] 57 (0, 0)) from rfl)
  clear g0 g1 g2 g3 g4 g5 g6 g7 g8
  (try simp only [Exit.inBlock, Exit.then])
  refine bodyPost_ret (results_cell_row rfl _ _ _ _ #[.slice none 0 0, .pointer none, .slice (some ⟨w.heap.size + 1 + 1, 0, none⟩) 0 0, .pointer none, .string ⟨#[]⟩, .int .i64 0, .int .i64 0, .int .i64 0, .int .i64 0] _ _ rfl g9 Tryf.underlying57 rfl (by kernel_rfl)) rfl ?_
  exact ⟨⟨_, rfl⟩, (Below.setCell (Below.setCell (Below.setCell (Below.setCell (Below.setCell (Below.setCell (Below.setCell (Below.setCell (Below.setCell HB.out (by show w.heap.size ≤ w.heap.size + 1; omega) _) (by show w.heap.size ≤ w.heap.size + 1; omega) _) (by show w.heap.size ≤ w.heap.size + 1; omega) _) (by show w.heap.size ≤ w.heap.size + 1; omega) _) (by show w.heap.size ≤ w.heap.size + 1; omega) _) (by show w.heap.size ≤ w.heap.size + 1; omega) _) (by show w.heap.size ≤ w.heap.size + 1; omega) _) (by show w.heap.size ≤ w.heap.size + 1; omega) _) (by show w.heap.size ≤ w.heap.size + 1; omega) _)⟩

/-! ### an error's text -/
theorem drew_bel {B : Nat} {a w : World} (h : Below B a w) : Below B a w.drew := ⟨h.os, h.tape, h.output, h.size, h.block⟩
theorem errLook : ∀ t w, (method 278 112 (StatV t) "Error").run Tryf.prog w = .ok (108, StatV t) w := fun _ _ => by kernel_rfl
def fm2 : ByteArray := ⟨#[37, 118, 32, 37, 118]⟩
theorem fm21 : Extern.FmtStop.printed? fm2 2 = some [(0, 118, false), (1, 118, false)] := by kernel_rfl
theorem fm22 : ∀ w, (Extern.FmtDoors.printed fm2 2).run Tryf.prog w = .ok [(0, 118, false), (1, 118, false)] w := fun _ => by kernel_rfl
theorem locSet (b k : Nat) (w : World) (h : w.cell? ⟨b, k, none⟩ = some (.int .i64 0)) :
    Calls Tryf.prog 107 #[.pointer (some ⟨b, k, none⟩)] w fun e w' => e = .returned (.bool false) ∧ w = w' := by
  go_enter Tryf.func107, Tryf.ntmps107
  go_wp2
  go_ret
  exact ⟨rfl, rfl⟩
theorem rangeSet (b k : Nat) (w : World) (h : w.cell? ⟨b, k + 2, none⟩ = some (.int .i64 0)) :
    Calls Tryf.prog 104 #[.pointer (some ⟨b, k, none⟩)] w fun e w' => e = .returned (.bool false) ∧ w = w' := by
  have H := Lib.hid h
  clear h
  go_enter Tryf.func104, Tryf.ntmps104
  go_wp2_with (go_at_call 107; refine (locSet _ _ _ H.out).mono ?_; rintro e w' ⟨rfl, rfl⟩)
  go_ret
  exact ⟨rfl, rfl⟩
set_option maxHeartbeats 1600000 in
set_option maxRecDepth 100000 in
theorem errText (F : Interp) (t : ByteArray) (w : World) (hF : F.answers w.tape) :
    Calls Tryf.prog 108 #[StatV t] w fun e w' => (∃ s, e = .returned (.string s)) ∧ Below w.heap.size w w' := by
  have HF := Lib.hid hF
  clear hF
  unfold StatV
  go_enter Tryf.func108, Tryf.ntmps108
  go_wp2_with fail
  refine (rangeSet w.heap.size 1 _ (by exact (cell_of_row _ _ 3 _ _ _ (heap_alloc_new w _)).trans rfl)).mono ?_
  rintro e X ⟨rfl, hX⟩
  have c0 : X.cell? ⟨w.heap.size, 0, none⟩ = some (.string t) := by rw [← hX]; exact (cell_of_row _ _ 0 _ _ _ (heap_alloc_new w _)).trans rfl
  have HB : Hid (Below w.heap.size w X) := Lib.hid (by rw [← hX]; exact Below.alloc (Below.refl _ w) (Nat.le_refl _) _)
  clear hX
  go_wp2_with (refine FmtS.wpList_sprintf2 (by rfl) _ _ (by rfl) fm2 X.heap.size ⟨#[]⟩ t (by rfl) (by rfl) fm21 fm22 (by exact (cell_of_row _ _ 0 _ _ _ (heap_alloc_new X _)).trans rfl) (by exact (cell_of_row _ _ 1 _ _ _ (heap_alloc_new X _)).trans rfl) F (by (have e := HB.out.tape); (have e2 := HF.out); (rw [← e] at e2); exact e2) ?_; intro tx)
  go_ret
  exact ⟨⟨_, rfl⟩, by refine drew_bel (Below.alloc HB.out HB.out.size _)⟩

end Go.Proofs.YtgdlfcgboghadaaFmt
