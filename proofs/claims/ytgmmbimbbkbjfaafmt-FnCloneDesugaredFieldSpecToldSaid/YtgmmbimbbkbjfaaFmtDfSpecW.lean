/-
  The walk of FnCloneDesugaredFieldSpec.
-/
import Derived.Test.YtgmmbimbbkbjfaaFmtDfA
import Derived.Laws.StructEq
import Derived.Deep.QuietTactic
import Derived.BigQuiet
namespace Go.Proofs.YtgmmbimbbkbjfaaFmt.fnCloneDesugaredFieldSpec
open Go Go.RowKit

theorem bytes_ok (b1 b2 b3 : Bool) (name id : ByteArray) (kd hd ln cl : Int) (w : World) (h1 : name.size + id.size ≤ 1048576) :
    Calls Tryf.prog 8 #[.bool b1, .string name, .int .i64 kd, .bool b2, .string id, .int .i64 hd, .bool b3, .int .i64 ln, .int .i64 cl] w fun e w' => e = .returned (.bool true) ∧ w = w' := by
  have q1 : decide (1048576 < name.size) = false := decide_eq_false (by omega)
  have q2 : decide (1048576 < id.size) = false := decide_eq_false (by omega)
  have q3 : decide (1048576 < name.size + id.size) = false := decide_eq_false (by omega)
  go_enter Tryf.func8, Tryf.ntmps8
  go_wp2
  all_goals go_ret
  all_goals exact ⟨rfl, rfl⟩
theorem bytes_no (b1 b2 b3 : Bool) (name id : ByteArray) (kd hd ln cl : Int) (w : World) (hd1 : name.size ≤ maxLen) (hs : id.size ≤ maxLen) (h1 : 1048576 < name.size + id.size) :
    Calls Tryf.prog 8 #[.bool b1, .string name, .int .i64 kd, .bool b2, .string id, .int .i64 hd, .bool b3, .int .i64 ln, .int .i64 cl] w fun e w' => e = .returned (.bool false) ∧ w = w' := by
  unfold maxLen at hs hd1
  by_cases q1 : 1048576 < name.size
  · go_enter Tryf.func8, Tryf.ntmps8
    go_wp2
    all_goals go_ret
    all_goals exact ⟨rfl, rfl⟩
  by_cases q2 : 1048576 < id.size
  · go_enter Tryf.func8, Tryf.ntmps8
    go_wp2
    all_goals go_ret
    all_goals exact ⟨rfl, rfl⟩
  · go_enter Tryf.func8, Tryf.ntmps8
    go_wp2
    all_goals go_ret
    all_goals exact ⟨rfl, rfl⟩

def n0 : NBase := ⟨none, 0, 0, none, none, 0, 0, none, ⟨#[]⟩, 0, 0, 0, 0⟩
def locCells (ln cl : Int) : List Value := [.pointer none, .string ⟨#[102, 46, 106, 115, 111, 110, 110, 101, 116]⟩, .int .i64 ln, .int .i64 cl, .int .i64 ln, .int .i64 cl]
theorem n0_ok (w : World) : NBok w n0 [] none := ⟨.isNil, rfl, by decide, rfl⟩

/-- The four blocks that the law makes. -/
structure DfW (w W : World) (name id : ByteArray) (kd hd ln cl : Int) (b3 : Bool) (v0 v1 : Value) : Prop where
  size : W.heap.size = w.heap.size + 4
  loc : W.heap[w.heap.size]? = some (.cells ⟨locCells ln cl⟩ 27 (0, 0))
  lit : W.heap[w.heap.size + 1]? = some (.cells (litCells name ⟨#[]⟩ ⟨#[]⟩ kd n0) 39 (0, 0))
  var : W.heap[w.heap.size + 1 + 1]? = some (.cells (varCells id n0) 43 (0, 0))
  df : W.heap[w.heap.size + 1 + 1 + 1]? = some (.cells ⟨v0 :: v1 :: (locCells ln cl ++ [.int .i64 hd, .bool b3])⟩ 49 (0, 0))
  below : Below w.heap.size w W
theorem DfW.set0 {w W : World} {name id : ByteArray} {kd hd ln cl : Int} {b3 : Bool} {v0 v1 : Value} (h : DfW w W name id kd hd ln cl b3 v0 v1) (v : Value) : DfW w (W.setCell ⟨w.heap.size + 1 + 1 + 1, 0, none⟩ v) name id kd hd ln cl b3 v v1 := by
  refine ⟨by rw [← h.size]; simp [World.setCell], (Below.heap_setCell W _ _ _ (by show _ ≠ w.heap.size + 1 + 1 + 1; omega)).trans h.loc, (Below.heap_setCell W _ _ _ (by show _ ≠ w.heap.size + 1 + 1 + 1; omega)).trans h.lit, (Below.heap_setCell W _ _ _ (by show _ ≠ w.heap.size + 1 + 1 + 1; omega)).trans h.var, ?_, h.below.setCell (by show w.heap.size ≤ w.heap.size + 1 + 1 + 1; omega) _⟩
  exact (Lib.heap_setCell_same h.df _).trans (by simp)
theorem DfW.set1 {w W : World} {name id : ByteArray} {kd hd ln cl : Int} {b3 : Bool} {v0 v1 : Value} (h : DfW w W name id kd hd ln cl b3 v0 v1) (v : Value) : DfW w (W.setCell ⟨w.heap.size + 1 + 1 + 1, 1, none⟩ v) name id kd hd ln cl b3 v0 v := by
  refine ⟨by rw [← h.size]; simp [World.setCell], (Below.heap_setCell W _ _ _ (by show _ ≠ w.heap.size + 1 + 1 + 1; omega)).trans h.loc, (Below.heap_setCell W _ _ _ (by show _ ≠ w.heap.size + 1 + 1 + 1; omega)).trans h.lit, (Below.heap_setCell W _ _ _ (by show _ ≠ w.heap.size + 1 + 1 + 1; omega)).trans h.var, ?_, h.below.setCell (by show w.heap.size ≤ w.heap.size + 1 + 1 + 1; omega) _⟩
  exact (Lib.heap_setCell_same h.df _).trans (by simp)

set_option maxHeartbeats 3200000 in
set_option maxRecDepth 100000 in
theorem walk_tt (b3 : Bool) (name id : ByteArray) (kd hd ln cl : Int) (w : World) (h1 : name.size + id.size ≤ 1048576) :
    Calls Tryf.prog 3 #[.bool true, .string name, .int .i64 kd, .bool true, .string id, .int .i64 hd, .bool b3, .int .i64 ln, .int .i64 cl] w fun e w' => e = .returned (.bool true) ∧ Below w.heap.size w w' := by
  have q1 : decide (1048576 < name.size) = false := decide_eq_false (by omega)
  have q2 : decide (1048576 < id.size) = false := decide_eq_false (by omega)
  have q3 : decide (1048576 < name.size + id.size) = false := decide_eq_false (by omega)
  have qs : ∀ (w : World) (a : Option Addr) (n c n' c' : Nat), (binOp .eql 35 (.slice a n c) (.slice none n' c')).run Tryf.prog w = .ok (.bool a.isNone) w := fun w a n c n' c' => Lib.run_eql_slice_nil w _ _ a n c n' c' Tryf.underlying35
  go_enter Tryf.func3, Tryf.ntmps3
  go_wp2_with fail
  refine (bytes_ok true true b3 name id kd hd ln cl w h1).mono ?_
  rintro e w' ⟨rfl, rfl⟩
  go_wp2_with fail
  generalize hW0 : ((((w.alloc (.cells #[.pointer none, .string ⟨#[102, 46, 106, 115, 111, 110, 110, 101, 116]⟩, .int .i64 ln, .int .i64 cl, .int .i64 ln, .int .i64 cl] 27 (0, 0))).alloc
    (.cells #[.string name, .string ⟨#[]⟩, .string ⟨#[]⟩, .slice none 0 0, .pointer none, .slice none 0 0, .pointer none, .string ⟨#[]⟩, .int .i64 0, .int .i64 0, .int .i64 0, .int .i64 0, .int .i64 kd] 39 (0, 0))).alloc
    (.cells #[.string id, .slice none 0 0, .pointer none, .slice none 0 0, .pointer none, .string ⟨#[]⟩, .int .i64 0, .int .i64 0, .int .i64 0, .int .i64 0] 43 (0, 0))).alloc
    (.cells #[.nilIface, .nilIface, .pointer none, .string ⟨#[102, 46, 106, 115, 111, 110, 110, 101, 116]⟩, .int .i64 ln, .int .i64 cl, .int .i64 ln, .int .i64 cl, .int .i64 hd, .bool b3] 49 (0, 0))) = W0
  have D0 : DfW w W0 name id kd hd ln cl b3 .nilIface .nilIface := by
    subst hW0
    refine ⟨by simp, ?_, ?_, ?_, ?_, (((((Below.refl _ w).alloc (Nat.le_refl _) _).alloc (by simp) _).alloc (by simp; omega) _).alloc (by simp; omega) _)⟩
    · exact (get_old (by first | (simp; done) | (simp; omega))).trans ((get_old (by first | (simp; done) | (simp; omega))).trans ((get_old (by first | (simp; done) | (simp; omega))).trans (get_new (by first | (simp; done) | (simp; omega)))))
    · exact (get_old (by first | (simp; done) | (simp; omega))).trans ((get_old (by first | (simp; done) | (simp; omega))).trans (get_new (by first | (simp; done) | (simp; omega))))
    · exact (get_old (by first | (simp; done) | (simp; omega))).trans (get_new (by first | (simp; done) | (simp; omega)))
    · exact get_new (by first | (simp; done) | (simp; omega))
  clear hW0
  refine (setName (w.heap.size + 1 + 1 + 1) (w.heap.size + 1) .nilIface W0 ((cell_of_row _ _ 0 _ _ _ D0.df).trans rfl) (frozen_of D0.df 0)).mono ?_
  rintro e W1 ⟨rfl, hW1⟩
  have D1 := D0.set0 (.iface 28 (.pointer (some ⟨w.heap.size + 1, 0, none⟩)))
  rw [hW1] at D1
  clear hW1 D0
  have HD1 := Lib.hid D1
  clear D1
  go_wp2_with fail
  have D1 := HD1.out
  refine (setBody (w.heap.size + 1 + 1 + 1) (w.heap.size + 1 + 1) .nilIface _ ((cell_of_row _ _ 1 _ _ _ D1.df).trans rfl) (frozen_of D1.df 1)).mono ?_
  rintro e W2 ⟨rfl, hW2⟩
  have D2 := D1.set1 (.iface 40 (.pointer (some ⟨w.heap.size + 1 + 1, 0, none⟩)))
  rw [hW2] at D2
  clear hW2 D1
  have HD2 := Lib.hid D2
  clear D2
  go_wp2_with fail
  have D2 := HD2.out
  refine (zzCloneDF (w.heap.size + 1 + 1 + 1) _ _ _ (.lit name ⟨#[]⟩ ⟨#[]⟩ kd n0 [] none) (.var id n0 [] none) _ D2.df ⟨_, rfl, D2.lit, n0_ok _⟩ ⟨_, rfl, D2.var, n0_ok _⟩).mono ?_
  rintro e W3 ⟨rfl, v0, v1, hdf, l0, l1, hk⟩
  have hs3 := hk.size
  have hsz := D2.size
  have hloc : W3.heap[w.heap.size]? = some (.cells ⟨locCells ln cl⟩ 27 (0, 0)) := (hk.block _ (by omega) (by omega)).trans D2.loc
  have hlit : W3.heap[w.heap.size + 1]? = some (.cells (litCells name ⟨#[]⟩ ⟨#[]⟩ kd n0) 39 (0, 0)) := (hk.block _ (by omega) (by omega)).trans D2.lit
  have hvar : W3.heap[w.heap.size + 1 + 1]? = some (.cells (varCells id n0) 43 (0, 0)) := (hk.block _ (by omega) (by omega)).trans D2.var
  have hbel : Below w.heap.size w W3 := D2.below.trans (hk.below (fun _ e => by omega) (by omega))
  obtain ⟨lb, n1, hge1, rfl, hnl, hnew1⟩ := l0
  obtain ⟨_, ⟨g1, cap1, hv1, _, _⟩, _⟩ := hnew1
  have hlb : lb ≠ w.heap.size + 1 := by omega
  have a0 : W3.cell? ⟨lb, 0, none⟩ = some (.string name) := (cell_of_row _ _ 0 _ _ _ hnl).trans rfl
  have a5 : W3.cell? ⟨lb, 5, none⟩ = some (.slice (some ⟨g1, 0, none⟩) 0 cap1) := ((cell_of_row _ _ 5 _ _ _ hnl).trans rfl).trans (congrArg some hv1)
  have a12 : W3.cell? ⟨lb, 12, none⟩ = some (.int .i64 kd) := (cell_of_row _ _ 12 _ _ _ hnl).trans rfl
  have pe1 : ∀ m, (binOp .eql 28 (.pointer (some ⟨lb, 0, none⟩)) (.pointer (some ⟨w.heap.size + 1, 0, none⟩))).run Tryf.prog (W3.drewN m) = .ok (.bool false) (W3.drewN m) := eq_heads (n := 13) Tryf.underlying28 (by kernel_rfl) (by decide) hlb hnl hlit
  clear hnl hv1 hge1
  obtain ⟨vb, n2, hge2, rfl, hnv, hnew2⟩ := l1
  obtain ⟨_, ⟨g2, cap2, hv2, _, _⟩, _⟩ := hnew2
  have hvb : vb ≠ w.heap.size + 1 + 1 := by omega
  have b0 : W3.cell? ⟨vb, 0, none⟩ = some (.string id) := (cell_of_row _ _ 0 _ _ _ hnv).trans rfl
  have b3' : W3.cell? ⟨vb, 3, none⟩ = some (.slice (some ⟨g2, 0, none⟩) 0 cap2) := ((cell_of_row _ _ 3 _ _ _ hnv).trans rfl).trans (congrArg some hv2)
  have pe2 : ∀ m, (binOp .eql 40 (.pointer (some ⟨vb, 0, none⟩)) (.pointer (some ⟨w.heap.size + 1 + 1, 0, none⟩))).run Tryf.prog (W3.drewN m) = .ok (.bool false) (W3.drewN m) := eq_heads (n := 10) Tryf.underlying40 (by kernel_rfl) (by decide) hvb hnv hvar
  clear hnv hv2 hge2
  have f0 : W3.cell? ⟨w.heap.size + 1 + 1 + 1, 0, none⟩ = some (.iface 28 (.pointer (some ⟨lb, 0, none⟩))) := (cell_of_row _ _ 0 _ _ _ hdf).trans rfl
  have f1 : W3.cell? ⟨w.heap.size + 1 + 1 + 1, 1, none⟩ = some (.iface 40 (.pointer (some ⟨vb, 0, none⟩))) := (cell_of_row _ _ 1 _ _ _ hdf).trans rfl
  have f2 : W3.cell? ⟨w.heap.size + 1 + 1 + 1, 2, none⟩ = some (.pointer none) := (cell_of_row _ _ 2 _ _ _ hdf).trans rfl
  have f3 : W3.cell? ⟨w.heap.size + 1 + 1 + 1, 3, none⟩ = some (.string ⟨#[102, 46, 106, 115, 111, 110, 110, 101, 116]⟩) := (cell_of_row _ _ 3 _ _ _ hdf).trans rfl
  have f4 : W3.cell? ⟨w.heap.size + 1 + 1 + 1, 4, none⟩ = some (.int .i64 ln) := (cell_of_row _ _ 4 _ _ _ hdf).trans rfl
  have f5 : W3.cell? ⟨w.heap.size + 1 + 1 + 1, 5, none⟩ = some (.int .i64 cl) := (cell_of_row _ _ 5 _ _ _ hdf).trans rfl
  have f6 : W3.cell? ⟨w.heap.size + 1 + 1 + 1, 6, none⟩ = some (.int .i64 ln) := (cell_of_row _ _ 6 _ _ _ hdf).trans rfl
  have f7 : W3.cell? ⟨w.heap.size + 1 + 1 + 1, 7, none⟩ = some (.int .i64 cl) := (cell_of_row _ _ 7 _ _ _ hdf).trans rfl
  have f8 : W3.cell? ⟨w.heap.size + 1 + 1 + 1, 8, none⟩ = some (.int .i64 hd) := (cell_of_row _ _ 8 _ _ _ hdf).trans rfl
  have f9 : W3.cell? ⟨w.heap.size + 1 + 1 + 1, 9, none⟩ = some (.bool b3) := (cell_of_row _ _ 9 _ _ _ hdf).trans rfl
  have o0 : W3.cell? ⟨w.heap.size, 0, none⟩ = some (.pointer none) := (cell_of_row _ _ 0 _ _ _ hloc).trans rfl
  have o1 : W3.cell? ⟨w.heap.size, 1, none⟩ = some (.string ⟨#[102, 46, 106, 115, 111, 110, 110, 101, 116]⟩) := (cell_of_row _ _ 1 _ _ _ hloc).trans rfl
  have o2 : W3.cell? ⟨w.heap.size, 2, none⟩ = some (.int .i64 ln) := (cell_of_row _ _ 2 _ _ _ hloc).trans rfl
  have o3 : W3.cell? ⟨w.heap.size, 3, none⟩ = some (.int .i64 cl) := (cell_of_row _ _ 3 _ _ _ hloc).trans rfl
  have o4 : W3.cell? ⟨w.heap.size, 4, none⟩ = some (.int .i64 ln) := (cell_of_row _ _ 4 _ _ _ hloc).trans rfl
  have o5 : W3.cell? ⟨w.heap.size, 5, none⟩ = some (.int .i64 cl) := (cell_of_row _ _ 5 _ _ _ hloc).trans rfl
  have s0 : W3.cell? ⟨w.heap.size + 1, 0, none⟩ = some (.string name) := (cell_of_row _ _ 0 _ _ _ hlit).trans rfl
  have r0 : W3.cell? ⟨w.heap.size + 1 + 1, 0, none⟩ = some (.string id) := (cell_of_row _ _ 0 _ _ _ hvar).trans rfl
  clear hdf hloc hlit hvar hk D2
  have HBE := Lib.hid hbel
  clear hbel
  have hgd : Tryf.prog.eqGuardType Tryf.prog.depth 27 = false := by kernel_rfl
  go_wp2_with fail
  go_quiet (fail)
  go_wp2_with fail
  refine (getName (w.heap.size + 1 + 1 + 1) lb _ (by exact f0)).mono ?_
  rintro e w4 ⟨rfl, rfl⟩
  go_wp2_with fail
  refine (getBody (w.heap.size + 1 + 1 + 1) vb _ (by exact f1)).mono ?_
  rintro e w5 ⟨rfl, rfl⟩
  go_wp2
  go_ret
  exact ⟨rfl, drewN_below HBE.out _⟩

set_option maxHeartbeats 3200000 in
set_option maxRecDepth 100000 in
theorem walk_tf (b3 : Bool) (name id : ByteArray) (kd hd ln cl : Int) (w : World) (h1 : name.size + id.size ≤ 1048576) :
    Calls Tryf.prog 3 #[.bool true, .string name, .int .i64 kd, .bool false, .string id, .int .i64 hd, .bool b3, .int .i64 ln, .int .i64 cl] w fun e w' => e = .returned (.bool true) ∧ Below w.heap.size w w' := by
  have q1 : decide (1048576 < name.size) = false := decide_eq_false (by omega)
  have q2 : decide (1048576 < id.size) = false := decide_eq_false (by omega)
  have q3 : decide (1048576 < name.size + id.size) = false := decide_eq_false (by omega)
  have qs : ∀ (w : World) (a : Option Addr) (n c n' c' : Nat), (binOp .eql 35 (.slice a n c) (.slice none n' c')).run Tryf.prog w = .ok (.bool a.isNone) w := fun w a n c n' c' => Lib.run_eql_slice_nil w _ _ a n c n' c' Tryf.underlying35
  go_enter Tryf.func3, Tryf.ntmps3
  go_wp2_with fail
  refine (bytes_ok true false b3 name id kd hd ln cl w h1).mono ?_
  rintro e w' ⟨rfl, rfl⟩
  go_wp2_with fail
  generalize hW0 : ((((w.alloc (.cells #[.pointer none, .string ⟨#[102, 46, 106, 115, 111, 110, 110, 101, 116]⟩, .int .i64 ln, .int .i64 cl, .int .i64 ln, .int .i64 cl] 27 (0, 0))).alloc
    (.cells #[.string name, .string ⟨#[]⟩, .string ⟨#[]⟩, .slice none 0 0, .pointer none, .slice none 0 0, .pointer none, .string ⟨#[]⟩, .int .i64 0, .int .i64 0, .int .i64 0, .int .i64 0, .int .i64 kd] 39 (0, 0))).alloc
    (.cells #[.string id, .slice none 0 0, .pointer none, .slice none 0 0, .pointer none, .string ⟨#[]⟩, .int .i64 0, .int .i64 0, .int .i64 0, .int .i64 0] 43 (0, 0))).alloc
    (.cells #[.nilIface, .nilIface, .pointer none, .string ⟨#[102, 46, 106, 115, 111, 110, 110, 101, 116]⟩, .int .i64 ln, .int .i64 cl, .int .i64 ln, .int .i64 cl, .int .i64 hd, .bool b3] 49 (0, 0))) = W0
  have D0 : DfW w W0 name id kd hd ln cl b3 .nilIface .nilIface := by
    subst hW0
    refine ⟨by simp, ?_, ?_, ?_, ?_, (((((Below.refl _ w).alloc (Nat.le_refl _) _).alloc (by simp) _).alloc (by simp; omega) _).alloc (by simp; omega) _)⟩
    · exact (get_old (by first | (simp; done) | (simp; omega))).trans ((get_old (by first | (simp; done) | (simp; omega))).trans ((get_old (by first | (simp; done) | (simp; omega))).trans (get_new (by first | (simp; done) | (simp; omega)))))
    · exact (get_old (by first | (simp; done) | (simp; omega))).trans ((get_old (by first | (simp; done) | (simp; omega))).trans (get_new (by first | (simp; done) | (simp; omega))))
    · exact (get_old (by first | (simp; done) | (simp; omega))).trans (get_new (by first | (simp; done) | (simp; omega)))
    · exact get_new (by first | (simp; done) | (simp; omega))
  clear hW0
  refine (setName (w.heap.size + 1 + 1 + 1) (w.heap.size + 1) .nilIface W0 ((cell_of_row _ _ 0 _ _ _ D0.df).trans rfl) (frozen_of D0.df 0)).mono ?_
  rintro e W1 ⟨rfl, hW1⟩
  have D1 := D0.set0 (.iface 28 (.pointer (some ⟨w.heap.size + 1, 0, none⟩)))
  rw [hW1] at D1
  clear hW1 D0
  have HD1 := Lib.hid D1
  clear D1
  go_wp2_with fail
  have D1 := HD1.out
  refine (zzCloneDF (w.heap.size + 1 + 1 + 1) _ _ _ (.lit name ⟨#[]⟩ ⟨#[]⟩ kd n0 [] none) .nil _ D1.df ⟨_, rfl, D1.lit, n0_ok _⟩ rfl).mono ?_
  rintro e W3 ⟨rfl, v0, v1, hdf, l0, l1, hk⟩
  have hs3 := hk.size
  have hsz := D1.size
  have hloc : W3.heap[w.heap.size]? = some (.cells ⟨locCells ln cl⟩ 27 (0, 0)) := (hk.block _ (by omega) (by omega)).trans D1.loc
  have hlit : W3.heap[w.heap.size + 1]? = some (.cells (litCells name ⟨#[]⟩ ⟨#[]⟩ kd n0) 39 (0, 0)) := (hk.block _ (by omega) (by omega)).trans D1.lit
  have hvar : W3.heap[w.heap.size + 1 + 1]? = some (.cells (varCells id n0) 43 (0, 0)) := (hk.block _ (by omega) (by omega)).trans D1.var
  have hbel : Below w.heap.size w W3 := D1.below.trans (hk.below (fun _ e => by omega) (by omega))
  obtain ⟨lb, n1, hge1, rfl, hnl, hnew1⟩ := l0
  obtain ⟨_, ⟨g1, cap1, hv1, _, _⟩, _⟩ := hnew1
  have hlb : lb ≠ w.heap.size + 1 := by omega
  have a0 : W3.cell? ⟨lb, 0, none⟩ = some (.string name) := (cell_of_row _ _ 0 _ _ _ hnl).trans rfl
  have a5 : W3.cell? ⟨lb, 5, none⟩ = some (.slice (some ⟨g1, 0, none⟩) 0 cap1) := ((cell_of_row _ _ 5 _ _ _ hnl).trans rfl).trans (congrArg some hv1)
  have a12 : W3.cell? ⟨lb, 12, none⟩ = some (.int .i64 kd) := (cell_of_row _ _ 12 _ _ _ hnl).trans rfl
  have pe1 : ∀ m, (binOp .eql 28 (.pointer (some ⟨lb, 0, none⟩)) (.pointer (some ⟨w.heap.size + 1, 0, none⟩))).run Tryf.prog (W3.drewN m) = .ok (.bool false) (W3.drewN m) := eq_heads (n := 13) Tryf.underlying28 (by kernel_rfl) (by decide) hlb hnl hlit
  clear hnl hv1 hge1
  obtain rfl : v1 = .nilIface := l1
  have f0 : W3.cell? ⟨w.heap.size + 1 + 1 + 1, 0, none⟩ = some (.iface 28 (.pointer (some ⟨lb, 0, none⟩))) := (cell_of_row _ _ 0 _ _ _ hdf).trans rfl
  have f1 : W3.cell? ⟨w.heap.size + 1 + 1 + 1, 1, none⟩ = some (.nilIface) := (cell_of_row _ _ 1 _ _ _ hdf).trans rfl
  have f2 : W3.cell? ⟨w.heap.size + 1 + 1 + 1, 2, none⟩ = some (.pointer none) := (cell_of_row _ _ 2 _ _ _ hdf).trans rfl
  have f3 : W3.cell? ⟨w.heap.size + 1 + 1 + 1, 3, none⟩ = some (.string ⟨#[102, 46, 106, 115, 111, 110, 110, 101, 116]⟩) := (cell_of_row _ _ 3 _ _ _ hdf).trans rfl
  have f4 : W3.cell? ⟨w.heap.size + 1 + 1 + 1, 4, none⟩ = some (.int .i64 ln) := (cell_of_row _ _ 4 _ _ _ hdf).trans rfl
  have f5 : W3.cell? ⟨w.heap.size + 1 + 1 + 1, 5, none⟩ = some (.int .i64 cl) := (cell_of_row _ _ 5 _ _ _ hdf).trans rfl
  have f6 : W3.cell? ⟨w.heap.size + 1 + 1 + 1, 6, none⟩ = some (.int .i64 ln) := (cell_of_row _ _ 6 _ _ _ hdf).trans rfl
  have f7 : W3.cell? ⟨w.heap.size + 1 + 1 + 1, 7, none⟩ = some (.int .i64 cl) := (cell_of_row _ _ 7 _ _ _ hdf).trans rfl
  have f8 : W3.cell? ⟨w.heap.size + 1 + 1 + 1, 8, none⟩ = some (.int .i64 hd) := (cell_of_row _ _ 8 _ _ _ hdf).trans rfl
  have f9 : W3.cell? ⟨w.heap.size + 1 + 1 + 1, 9, none⟩ = some (.bool b3) := (cell_of_row _ _ 9 _ _ _ hdf).trans rfl
  have o0 : W3.cell? ⟨w.heap.size, 0, none⟩ = some (.pointer none) := (cell_of_row _ _ 0 _ _ _ hloc).trans rfl
  have o1 : W3.cell? ⟨w.heap.size, 1, none⟩ = some (.string ⟨#[102, 46, 106, 115, 111, 110, 110, 101, 116]⟩) := (cell_of_row _ _ 1 _ _ _ hloc).trans rfl
  have o2 : W3.cell? ⟨w.heap.size, 2, none⟩ = some (.int .i64 ln) := (cell_of_row _ _ 2 _ _ _ hloc).trans rfl
  have o3 : W3.cell? ⟨w.heap.size, 3, none⟩ = some (.int .i64 cl) := (cell_of_row _ _ 3 _ _ _ hloc).trans rfl
  have o4 : W3.cell? ⟨w.heap.size, 4, none⟩ = some (.int .i64 ln) := (cell_of_row _ _ 4 _ _ _ hloc).trans rfl
  have o5 : W3.cell? ⟨w.heap.size, 5, none⟩ = some (.int .i64 cl) := (cell_of_row _ _ 5 _ _ _ hloc).trans rfl
  have s0 : W3.cell? ⟨w.heap.size + 1, 0, none⟩ = some (.string name) := (cell_of_row _ _ 0 _ _ _ hlit).trans rfl
  have r0 : W3.cell? ⟨w.heap.size + 1 + 1, 0, none⟩ = some (.string id) := (cell_of_row _ _ 0 _ _ _ hvar).trans rfl
  clear hdf hloc hlit hvar hk D1
  have HBE := Lib.hid hbel
  clear hbel
  have hgd : Tryf.prog.eqGuardType Tryf.prog.depth 27 = false := by kernel_rfl
  go_wp2_with fail
  go_quiet (fail)
  go_wp2_with fail
  refine (getName (w.heap.size + 1 + 1 + 1) lb _ (by exact f0)).mono ?_
  rintro e w4 ⟨rfl, rfl⟩
  go_wp2_with fail
  refine (bodyNil (w.heap.size + 1 + 1 + 1) _ (by exact f1)).mono ?_
  rintro e w5 ⟨rfl, rfl⟩
  go_wp2
  go_ret
  exact ⟨rfl, drewN_below HBE.out _⟩

set_option maxHeartbeats 3200000 in
set_option maxRecDepth 100000 in
theorem walk_ft (b3 : Bool) (name id : ByteArray) (kd hd ln cl : Int) (w : World) (h1 : name.size + id.size ≤ 1048576) :
    Calls Tryf.prog 3 #[.bool false, .string name, .int .i64 kd, .bool true, .string id, .int .i64 hd, .bool b3, .int .i64 ln, .int .i64 cl] w fun e w' => e = .returned (.bool true) ∧ Below w.heap.size w w' := by
  have q1 : decide (1048576 < name.size) = false := decide_eq_false (by omega)
  have q2 : decide (1048576 < id.size) = false := decide_eq_false (by omega)
  have q3 : decide (1048576 < name.size + id.size) = false := decide_eq_false (by omega)
  have qs : ∀ (w : World) (a : Option Addr) (n c n' c' : Nat), (binOp .eql 35 (.slice a n c) (.slice none n' c')).run Tryf.prog w = .ok (.bool a.isNone) w := fun w a n c n' c' => Lib.run_eql_slice_nil w _ _ a n c n' c' Tryf.underlying35
  go_enter Tryf.func3, Tryf.ntmps3
  go_wp2_with fail
  refine (bytes_ok false true b3 name id kd hd ln cl w h1).mono ?_
  rintro e w' ⟨rfl, rfl⟩
  go_wp2_with fail
  generalize hW0 : ((((w.alloc (.cells #[.pointer none, .string ⟨#[102, 46, 106, 115, 111, 110, 110, 101, 116]⟩, .int .i64 ln, .int .i64 cl, .int .i64 ln, .int .i64 cl] 27 (0, 0))).alloc
    (.cells #[.string name, .string ⟨#[]⟩, .string ⟨#[]⟩, .slice none 0 0, .pointer none, .slice none 0 0, .pointer none, .string ⟨#[]⟩, .int .i64 0, .int .i64 0, .int .i64 0, .int .i64 0, .int .i64 kd] 39 (0, 0))).alloc
    (.cells #[.string id, .slice none 0 0, .pointer none, .slice none 0 0, .pointer none, .string ⟨#[]⟩, .int .i64 0, .int .i64 0, .int .i64 0, .int .i64 0] 43 (0, 0))).alloc
    (.cells #[.nilIface, .nilIface, .pointer none, .string ⟨#[102, 46, 106, 115, 111, 110, 110, 101, 116]⟩, .int .i64 ln, .int .i64 cl, .int .i64 ln, .int .i64 cl, .int .i64 hd, .bool b3] 49 (0, 0))) = W0
  have D0 : DfW w W0 name id kd hd ln cl b3 .nilIface .nilIface := by
    subst hW0
    refine ⟨by simp, ?_, ?_, ?_, ?_, (((((Below.refl _ w).alloc (Nat.le_refl _) _).alloc (by simp) _).alloc (by simp; omega) _).alloc (by simp; omega) _)⟩
    · exact (get_old (by first | (simp; done) | (simp; omega))).trans ((get_old (by first | (simp; done) | (simp; omega))).trans ((get_old (by first | (simp; done) | (simp; omega))).trans (get_new (by first | (simp; done) | (simp; omega)))))
    · exact (get_old (by first | (simp; done) | (simp; omega))).trans ((get_old (by first | (simp; done) | (simp; omega))).trans (get_new (by first | (simp; done) | (simp; omega))))
    · exact (get_old (by first | (simp; done) | (simp; omega))).trans (get_new (by first | (simp; done) | (simp; omega)))
    · exact get_new (by first | (simp; done) | (simp; omega))
  clear hW0
  refine (setBody (w.heap.size + 1 + 1 + 1) (w.heap.size + 1 + 1) .nilIface _ ((cell_of_row _ _ 1 _ _ _ D0.df).trans rfl) (frozen_of D0.df 1)).mono ?_
  rintro e W2 ⟨rfl, hW2⟩
  have D2 := D0.set1 (.iface 40 (.pointer (some ⟨w.heap.size + 1 + 1, 0, none⟩)))
  rw [hW2] at D2
  clear hW2 D0
  have HD2 := Lib.hid D2
  clear D2
  go_wp2_with fail
  have D2 := HD2.out
  refine (zzCloneDF (w.heap.size + 1 + 1 + 1) _ _ _ .nil (.var id n0 [] none) _ D2.df rfl ⟨_, rfl, D2.var, n0_ok _⟩).mono ?_
  rintro e W3 ⟨rfl, v0, v1, hdf, l0, l1, hk⟩
  have hs3 := hk.size
  have hsz := D2.size
  have hloc : W3.heap[w.heap.size]? = some (.cells ⟨locCells ln cl⟩ 27 (0, 0)) := (hk.block _ (by omega) (by omega)).trans D2.loc
  have hlit : W3.heap[w.heap.size + 1]? = some (.cells (litCells name ⟨#[]⟩ ⟨#[]⟩ kd n0) 39 (0, 0)) := (hk.block _ (by omega) (by omega)).trans D2.lit
  have hvar : W3.heap[w.heap.size + 1 + 1]? = some (.cells (varCells id n0) 43 (0, 0)) := (hk.block _ (by omega) (by omega)).trans D2.var
  have hbel : Below w.heap.size w W3 := D2.below.trans (hk.below (fun _ e => by omega) (by omega))
  obtain rfl : v0 = .nilIface := l0
  obtain ⟨vb, n2, hge2, rfl, hnv, hnew2⟩ := l1
  obtain ⟨_, ⟨g2, cap2, hv2, _, _⟩, _⟩ := hnew2
  have hvb : vb ≠ w.heap.size + 1 + 1 := by omega
  have b0 : W3.cell? ⟨vb, 0, none⟩ = some (.string id) := (cell_of_row _ _ 0 _ _ _ hnv).trans rfl
  have b3' : W3.cell? ⟨vb, 3, none⟩ = some (.slice (some ⟨g2, 0, none⟩) 0 cap2) := ((cell_of_row _ _ 3 _ _ _ hnv).trans rfl).trans (congrArg some hv2)
  have pe2 : ∀ m, (binOp .eql 40 (.pointer (some ⟨vb, 0, none⟩)) (.pointer (some ⟨w.heap.size + 1 + 1, 0, none⟩))).run Tryf.prog (W3.drewN m) = .ok (.bool false) (W3.drewN m) := eq_heads (n := 10) Tryf.underlying40 (by kernel_rfl) (by decide) hvb hnv hvar
  clear hnv hv2 hge2
  have f0 : W3.cell? ⟨w.heap.size + 1 + 1 + 1, 0, none⟩ = some (.nilIface) := (cell_of_row _ _ 0 _ _ _ hdf).trans rfl
  have f1 : W3.cell? ⟨w.heap.size + 1 + 1 + 1, 1, none⟩ = some (.iface 40 (.pointer (some ⟨vb, 0, none⟩))) := (cell_of_row _ _ 1 _ _ _ hdf).trans rfl
  have f2 : W3.cell? ⟨w.heap.size + 1 + 1 + 1, 2, none⟩ = some (.pointer none) := (cell_of_row _ _ 2 _ _ _ hdf).trans rfl
  have f3 : W3.cell? ⟨w.heap.size + 1 + 1 + 1, 3, none⟩ = some (.string ⟨#[102, 46, 106, 115, 111, 110, 110, 101, 116]⟩) := (cell_of_row _ _ 3 _ _ _ hdf).trans rfl
  have f4 : W3.cell? ⟨w.heap.size + 1 + 1 + 1, 4, none⟩ = some (.int .i64 ln) := (cell_of_row _ _ 4 _ _ _ hdf).trans rfl
  have f5 : W3.cell? ⟨w.heap.size + 1 + 1 + 1, 5, none⟩ = some (.int .i64 cl) := (cell_of_row _ _ 5 _ _ _ hdf).trans rfl
  have f6 : W3.cell? ⟨w.heap.size + 1 + 1 + 1, 6, none⟩ = some (.int .i64 ln) := (cell_of_row _ _ 6 _ _ _ hdf).trans rfl
  have f7 : W3.cell? ⟨w.heap.size + 1 + 1 + 1, 7, none⟩ = some (.int .i64 cl) := (cell_of_row _ _ 7 _ _ _ hdf).trans rfl
  have f8 : W3.cell? ⟨w.heap.size + 1 + 1 + 1, 8, none⟩ = some (.int .i64 hd) := (cell_of_row _ _ 8 _ _ _ hdf).trans rfl
  have f9 : W3.cell? ⟨w.heap.size + 1 + 1 + 1, 9, none⟩ = some (.bool b3) := (cell_of_row _ _ 9 _ _ _ hdf).trans rfl
  have o0 : W3.cell? ⟨w.heap.size, 0, none⟩ = some (.pointer none) := (cell_of_row _ _ 0 _ _ _ hloc).trans rfl
  have o1 : W3.cell? ⟨w.heap.size, 1, none⟩ = some (.string ⟨#[102, 46, 106, 115, 111, 110, 110, 101, 116]⟩) := (cell_of_row _ _ 1 _ _ _ hloc).trans rfl
  have o2 : W3.cell? ⟨w.heap.size, 2, none⟩ = some (.int .i64 ln) := (cell_of_row _ _ 2 _ _ _ hloc).trans rfl
  have o3 : W3.cell? ⟨w.heap.size, 3, none⟩ = some (.int .i64 cl) := (cell_of_row _ _ 3 _ _ _ hloc).trans rfl
  have o4 : W3.cell? ⟨w.heap.size, 4, none⟩ = some (.int .i64 ln) := (cell_of_row _ _ 4 _ _ _ hloc).trans rfl
  have o5 : W3.cell? ⟨w.heap.size, 5, none⟩ = some (.int .i64 cl) := (cell_of_row _ _ 5 _ _ _ hloc).trans rfl
  have s0 : W3.cell? ⟨w.heap.size + 1, 0, none⟩ = some (.string name) := (cell_of_row _ _ 0 _ _ _ hlit).trans rfl
  have r0 : W3.cell? ⟨w.heap.size + 1 + 1, 0, none⟩ = some (.string id) := (cell_of_row _ _ 0 _ _ _ hvar).trans rfl
  clear hdf hloc hlit hvar hk D2
  have HBE := Lib.hid hbel
  clear hbel
  have hgd : Tryf.prog.eqGuardType Tryf.prog.depth 27 = false := by kernel_rfl
  go_wp2_with fail
  go_quiet (fail)
  go_wp2_with fail
  refine (nameNil (w.heap.size + 1 + 1 + 1) _ (by exact f0)).mono ?_
  rintro e w4 ⟨rfl, rfl⟩
  go_wp2_with fail
  refine (getBody (w.heap.size + 1 + 1 + 1) vb _ (by exact f1)).mono ?_
  rintro e w5 ⟨rfl, rfl⟩
  go_wp2
  go_ret
  exact ⟨rfl, drewN_below HBE.out _⟩

set_option maxHeartbeats 3200000 in
set_option maxRecDepth 100000 in
theorem walk_ff (b3 : Bool) (name id : ByteArray) (kd hd ln cl : Int) (w : World) (h1 : name.size + id.size ≤ 1048576) :
    Calls Tryf.prog 3 #[.bool false, .string name, .int .i64 kd, .bool false, .string id, .int .i64 hd, .bool b3, .int .i64 ln, .int .i64 cl] w fun e w' => e = .returned (.bool true) ∧ Below w.heap.size w w' := by
  have q1 : decide (1048576 < name.size) = false := decide_eq_false (by omega)
  have q2 : decide (1048576 < id.size) = false := decide_eq_false (by omega)
  have q3 : decide (1048576 < name.size + id.size) = false := decide_eq_false (by omega)
  have qs : ∀ (w : World) (a : Option Addr) (n c n' c' : Nat), (binOp .eql 35 (.slice a n c) (.slice none n' c')).run Tryf.prog w = .ok (.bool a.isNone) w := fun w a n c n' c' => Lib.run_eql_slice_nil w _ _ a n c n' c' Tryf.underlying35
  go_enter Tryf.func3, Tryf.ntmps3
  go_wp2_with fail
  refine (bytes_ok false false b3 name id kd hd ln cl w h1).mono ?_
  rintro e w' ⟨rfl, rfl⟩
  go_wp2_with fail
  generalize hW0 : ((((w.alloc (.cells #[.pointer none, .string ⟨#[102, 46, 106, 115, 111, 110, 110, 101, 116]⟩, .int .i64 ln, .int .i64 cl, .int .i64 ln, .int .i64 cl] 27 (0, 0))).alloc
    (.cells #[.string name, .string ⟨#[]⟩, .string ⟨#[]⟩, .slice none 0 0, .pointer none, .slice none 0 0, .pointer none, .string ⟨#[]⟩, .int .i64 0, .int .i64 0, .int .i64 0, .int .i64 0, .int .i64 kd] 39 (0, 0))).alloc
    (.cells #[.string id, .slice none 0 0, .pointer none, .slice none 0 0, .pointer none, .string ⟨#[]⟩, .int .i64 0, .int .i64 0, .int .i64 0, .int .i64 0] 43 (0, 0))).alloc
    (.cells #[.nilIface, .nilIface, .pointer none, .string ⟨#[102, 46, 106, 115, 111, 110, 110, 101, 116]⟩, .int .i64 ln, .int .i64 cl, .int .i64 ln, .int .i64 cl, .int .i64 hd, .bool b3] 49 (0, 0))) = W0
  have D0 : DfW w W0 name id kd hd ln cl b3 .nilIface .nilIface := by
    subst hW0
    refine ⟨by simp, ?_, ?_, ?_, ?_, (((((Below.refl _ w).alloc (Nat.le_refl _) _).alloc (by simp) _).alloc (by simp; omega) _).alloc (by simp; omega) _)⟩
    · exact (get_old (by first | (simp; done) | (simp; omega))).trans ((get_old (by first | (simp; done) | (simp; omega))).trans ((get_old (by first | (simp; done) | (simp; omega))).trans (get_new (by first | (simp; done) | (simp; omega)))))
    · exact (get_old (by first | (simp; done) | (simp; omega))).trans ((get_old (by first | (simp; done) | (simp; omega))).trans (get_new (by first | (simp; done) | (simp; omega))))
    · exact (get_old (by first | (simp; done) | (simp; omega))).trans (get_new (by first | (simp; done) | (simp; omega)))
    · exact get_new (by first | (simp; done) | (simp; omega))
  clear hW0
  refine (zzCloneDF (w.heap.size + 1 + 1 + 1) _ _ _ .nil .nil _ D0.df rfl rfl).mono ?_
  rintro e W3 ⟨rfl, v0, v1, hdf, l0, l1, hk⟩
  have hs3 := hk.size
  have hsz := D0.size
  have hloc : W3.heap[w.heap.size]? = some (.cells ⟨locCells ln cl⟩ 27 (0, 0)) := (hk.block _ (by omega) (by omega)).trans D0.loc
  have hlit : W3.heap[w.heap.size + 1]? = some (.cells (litCells name ⟨#[]⟩ ⟨#[]⟩ kd n0) 39 (0, 0)) := (hk.block _ (by omega) (by omega)).trans D0.lit
  have hvar : W3.heap[w.heap.size + 1 + 1]? = some (.cells (varCells id n0) 43 (0, 0)) := (hk.block _ (by omega) (by omega)).trans D0.var
  have hbel : Below w.heap.size w W3 := D0.below.trans (hk.below (fun _ e => by omega) (by omega))
  obtain rfl : v0 = .nilIface := l0
  obtain rfl : v1 = .nilIface := l1
  have f0 : W3.cell? ⟨w.heap.size + 1 + 1 + 1, 0, none⟩ = some (.nilIface) := (cell_of_row _ _ 0 _ _ _ hdf).trans rfl
  have f1 : W3.cell? ⟨w.heap.size + 1 + 1 + 1, 1, none⟩ = some (.nilIface) := (cell_of_row _ _ 1 _ _ _ hdf).trans rfl
  have f2 : W3.cell? ⟨w.heap.size + 1 + 1 + 1, 2, none⟩ = some (.pointer none) := (cell_of_row _ _ 2 _ _ _ hdf).trans rfl
  have f3 : W3.cell? ⟨w.heap.size + 1 + 1 + 1, 3, none⟩ = some (.string ⟨#[102, 46, 106, 115, 111, 110, 110, 101, 116]⟩) := (cell_of_row _ _ 3 _ _ _ hdf).trans rfl
  have f4 : W3.cell? ⟨w.heap.size + 1 + 1 + 1, 4, none⟩ = some (.int .i64 ln) := (cell_of_row _ _ 4 _ _ _ hdf).trans rfl
  have f5 : W3.cell? ⟨w.heap.size + 1 + 1 + 1, 5, none⟩ = some (.int .i64 cl) := (cell_of_row _ _ 5 _ _ _ hdf).trans rfl
  have f6 : W3.cell? ⟨w.heap.size + 1 + 1 + 1, 6, none⟩ = some (.int .i64 ln) := (cell_of_row _ _ 6 _ _ _ hdf).trans rfl
  have f7 : W3.cell? ⟨w.heap.size + 1 + 1 + 1, 7, none⟩ = some (.int .i64 cl) := (cell_of_row _ _ 7 _ _ _ hdf).trans rfl
  have f8 : W3.cell? ⟨w.heap.size + 1 + 1 + 1, 8, none⟩ = some (.int .i64 hd) := (cell_of_row _ _ 8 _ _ _ hdf).trans rfl
  have f9 : W3.cell? ⟨w.heap.size + 1 + 1 + 1, 9, none⟩ = some (.bool b3) := (cell_of_row _ _ 9 _ _ _ hdf).trans rfl
  have o0 : W3.cell? ⟨w.heap.size, 0, none⟩ = some (.pointer none) := (cell_of_row _ _ 0 _ _ _ hloc).trans rfl
  have o1 : W3.cell? ⟨w.heap.size, 1, none⟩ = some (.string ⟨#[102, 46, 106, 115, 111, 110, 110, 101, 116]⟩) := (cell_of_row _ _ 1 _ _ _ hloc).trans rfl
  have o2 : W3.cell? ⟨w.heap.size, 2, none⟩ = some (.int .i64 ln) := (cell_of_row _ _ 2 _ _ _ hloc).trans rfl
  have o3 : W3.cell? ⟨w.heap.size, 3, none⟩ = some (.int .i64 cl) := (cell_of_row _ _ 3 _ _ _ hloc).trans rfl
  have o4 : W3.cell? ⟨w.heap.size, 4, none⟩ = some (.int .i64 ln) := (cell_of_row _ _ 4 _ _ _ hloc).trans rfl
  have o5 : W3.cell? ⟨w.heap.size, 5, none⟩ = some (.int .i64 cl) := (cell_of_row _ _ 5 _ _ _ hloc).trans rfl
  have s0 : W3.cell? ⟨w.heap.size + 1, 0, none⟩ = some (.string name) := (cell_of_row _ _ 0 _ _ _ hlit).trans rfl
  have r0 : W3.cell? ⟨w.heap.size + 1 + 1, 0, none⟩ = some (.string id) := (cell_of_row _ _ 0 _ _ _ hvar).trans rfl
  clear hdf hloc hlit hvar hk D0
  have HBE := Lib.hid hbel
  clear hbel
  have hgd : Tryf.prog.eqGuardType Tryf.prog.depth 27 = false := by kernel_rfl
  go_wp2_with fail
  go_quiet (fail)
  go_wp2_with fail
  refine (nameNil (w.heap.size + 1 + 1 + 1) _ (by exact f0)).mono ?_
  rintro e w4 ⟨rfl, rfl⟩
  go_wp2_with fail
  refine (bodyNil (w.heap.size + 1 + 1 + 1) _ (by exact f1)).mono ?_
  rintro e w5 ⟨rfl, rfl⟩
  go_wp2
  go_ret
  exact ⟨rfl, drewN_below HBE.out _⟩

