/-
  makeStaticErrorPoint hands back an error, and leaves what lay there before.
-/
import Derived.Test.YthohpccmleodpaaFmtEmitB
import Derived.Deep.Cut
namespace Go.Proofs.YthohpccmleodpaaFmt
open Go Go.RowKit Go.Shelf

def SomeErr (B : Nat) (w : World) (e : Ending) (w' : World) : Prop := (∃ v, e = .returned (.iface 112 v)) ∧ Below B w w'

set_option maxRecDepth 100000 in
theorem mkStatic (s : ByteArray) (p : Option Addr) (d : ByteArray) (i j k l : Int) (w : World) :
    Calls Tryf.prog 40 #[.string s, .agg #[.pointer p, .string d, .int .i64 i, .int .i64 j, .int .i64 k, .int .i64 l]] w (SomeErr w.heap.size w) := by
  go_enter Tryf.func40, Tryf.ntmps40
  go_wp2
  go_ret
  exact ⟨⟨_, rfl⟩, by refine Below.alloc (Below.refl _ w) (Nat.le_refl _) _⟩

theorem bel {W V : World} (h : Below W.drew.heap.size W.drew V) : Below W.heap.size W V := ⟨h.os, h.tape, h.output, h.size, h.block⟩

set_option maxHeartbeats 800000 in
set_option maxRecDepth 100000 in
theorem mkErr (a : Nat) (L : LexSt) (w : World) (h : LexAt w a L) (p : Option Addr) (hp : L.src = .pointer p) (msg : ByteArray) (l c : Int) :
    Calls Tryf.prog 24 #[.pointer (some ⟨a, 0, none⟩), .string msg, .agg #[.int .i64 l, .int .i64 c]] w (SomeErr w.heap.size w) := by
  obtain ⟨W, hW⟩ : ∃ W, W = w.alloc (.cells #[.int .i64 l, .int .i64 c] 42) := ⟨_, rfl⟩
  have hlt := h.lt
  have hB : Below w.heap.size w W := by rw [hW]; exact (Below.refl _ w).alloc (Nat.le_refl _) _
  have hsz : W.heap.size = w.heap.size + 1 := by rw [hW]; simp
  have c1 : W.cell? ⟨a, 1, none⟩ = some (.string L.im) := (hB.cell (p := ⟨a, 1, none⟩) hlt).trans (h.cell 1)
  have c3 : W.cell? ⟨a, 3, none⟩ = some (.pointer p) := (hB.cell (p := ⟨a, 3, none⟩) hlt).trans ((h.cell 3).trans (by rw [← hp]; rfl))
  have k0 : W.cell? ⟨w.heap.size, 0, none⟩ = some (.int .i64 l) := by rw [hW]; go_simp
  have k1 : W.cell? ⟨w.heap.size, 1, none⟩ = some (.int .i64 c) := by rw [hW]; go_simp
  have HS : Hid (∀ V, Below W.heap.size W V → V.cell? ⟨a, 1, none⟩ = some (.string L.im) ∧ V.cell? ⟨a, 3, none⟩ = some (.pointer p) ∧ V.cell? ⟨w.heap.size, 0, none⟩ = some (.int .i64 l) ∧ V.cell? ⟨w.heap.size, 1, none⟩ = some (.int .i64 c)) :=
    Lib.hid fun V hV => ⟨(hV.cell (p := ⟨a, 1, none⟩) (by show a < _; omega)).trans c1, (hV.cell (p := ⟨a, 3, none⟩) (by show a < _; omega)).trans c3, (hV.cell (p := ⟨w.heap.size, 0, none⟩) (by show w.heap.size < _; omega)).trans k0, (hV.cell (p := ⟨w.heap.size, 1, none⟩) (by show w.heap.size < _; omega)).trans k1⟩
  have HB := Lib.hid hB
  have HW := Lib.hid hW
  clear h hp hB c1 c3 k0 k1
  go_enter Tryf.func24, Tryf.ntmps24
  go_upto_region 1 with (fail)
  rw [← hW]
  clear hW
  go_region_held3 (fun V => V.cell? ⟨a, 1, none⟩ = some (.string L.im) ∧ V.cell? ⟨a, 3, none⟩ = some (.pointer p) ∧ V.cell? ⟨w.heap.size, 0, none⟩ = some (.int .i64 l) ∧ V.cell? ⟨w.heap.size, 1, none⟩ = some (.int .i64 c))
    (first | exact HS.out W (Below.refl _ W) | exact HS.out _ (by exact bel (Below.refl _ _)) | exact HS.out _ (by exact bel hb1) | exact HS.out _ (by exact bel (hb1.trans (hb2.mono hb1.size))))
    (first | (go_at_call 41; refine (makeLoc _ _ _ _ _ _ _).mono ?_; rintro e w1 ⟨rfl, hb1⟩) | (go_at_call 40; refine (mkStatic _ _ _ _ _ _ _ _).mono ?_; rintro e w2 ⟨⟨v2, rfl⟩, hb2⟩))
  go_wp2
  go_ret
  exact ⟨⟨_, rfl⟩, HB.out.trans ((bel (hb1.trans (hb2.mono hb1.size))).mono (by omega))⟩

end Go.Proofs.YthohpccmleodpaaFmt
