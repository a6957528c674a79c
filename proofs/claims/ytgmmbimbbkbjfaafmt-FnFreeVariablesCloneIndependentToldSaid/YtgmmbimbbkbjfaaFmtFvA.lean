/-
  Small contracts for FnFreeVariablesCloneIndependent.
-/
import Derived.Test.YtgmmbimbbkbjfaaFmtIdsB
import Derived.Test.YtgmmbimbbkbjfaaFmtCloneF
import Derived.Test.YtgmmbimbbkbjfaaFmtDfA
import Derived.IntWalk
import Derived.Deep.QuietTactic
import Derived.BigQuiet
namespace Go.Proofs.YtgmmbimbbkbjfaaFmt.fnFreeVariablesCloneIndependent
open Go Go.RowKit

def Fits (id ctx : ByteArray) (n : Nat) (zs : List ByteArray) : Prop := id.size + ctx.size + n ≤ 1048576 ∧ ∀ i, i < n → (zs.getD i ByteArray.empty).size ≤ 1048576
set_option maxRecDepth 100000 in
theorem bytesAt (id ctx : ByteArray) (b : Bool) (a : Option Addr) (n c : Nat) (zs : List ByteArray) (w : World) (hi : StrsAt w w.heap.size (.slice a n c) zs) (hl : zs.length = n) (hn : n ≤ maxLen) (h1 : id.size ≤ maxLen) (h2 : ctx.size ≤ maxLen) (hz : ∀ i, i < n → (zs.getD i ByteArray.empty).size ≤ maxLen) :
    Calls Tryf.prog 22 #[.string id, .slice a n c, .string ctx, .bool b] w fun e w' => BPost (Fits id ctx n zs) w e w' := by
  unfold maxLen at hn h1 h2 hz
  by_cases q1 : 1048576 < id.size
  · clear hi hl hz
    go_enter Tryf.func22, Tryf.ntmps22
    go_wp2
    all_goals go_ret
    all_goals exact BPost.no w
  by_cases q4 : 1048576 < n
  · clear hi hl hz
    go_enter Tryf.func22, Tryf.ntmps22
    go_wp2
    all_goals go_ret
    all_goals exact BPost.no w
  by_cases q5 : 1048576 < id.size + n
  · clear hi hl hz
    go_enter Tryf.func22, Tryf.ntmps22
    go_wp2
    all_goals go_ret
    all_goals exact BPost.no w
  have HI := Lib.hid hi
  have HL := Lib.hid hl
  have HZ := Lib.hid hz
  clear hi hl hz
  go_enter Tryf.func22, Tryf.ntmps22
  go_wp2
  go_loop [9, 10] (fun sm i => ∃ q S : Nat, q ≤ n ∧ i = .int .i64 q ∧ sm = .int .i64 S ∧ S ≤ 1048576 ∧ id.size + n ≤ S ∧ Hid (∀ j, j < q → (zs.getD j ByteArray.empty).size ≤ 1048576)) (fun _ i => n - (intOf i).toNat)
  case atStart => exact ⟨0, id.size + n, Nat.zero_le _, rfl, by go_num, by omega, by omega, Lib.hid (fun j hj => by omega)⟩
  case round =>
    obtain ⟨q, S, hq, rfl, rfl, hS, hS', HJ⟩ := hrel
    by_cases hlt : q < n
    · obtain ⟨b, off, rfl, hb, hcc⟩ := HI.out.cell (k := q) (by rw [HL.out]; exact hlt)
      have hc1 := hcc q (by rw [HL.out]; exact hlt)
      have hs1 := HZ.out q hlt
      have hrec : (zs.getD q ByteArray.empty).size ≤ 1048576 → Hid (∀ j, j < q + 1 → (zs.getD j ByteArray.empty).size ≤ 1048576) := fun h => Lib.hid (fun j hj => by
        by_cases e : j = q
        · rw [e]; exact h
        · exact HJ.out j (by omega))
      have HR := Lib.hid hrec
      clear hrec
      generalize zs.getD q ByteArray.empty = t at hc1 hs1 HR
      clear hcc
      by_cases hS1 : 1048576 < t.size
      · go_wp2
        all_goals go_ret
        all_goals exact BPost.no w
      by_cases hS2 : 1048576 < S + t.size
      · go_wp2
        all_goals go_ret
        all_goals exact BPost.no w
      go_wp2
      go_round
      case rel => exact ⟨q + 1, S + t.size, by omega, by go_num, by go_num, by omega, by omega, HR.out (by omega)⟩
      case measure => simp [intOf]; omega
    · obtain rfl : q = n := by omega
      by_cases hc1 : 1048576 < ctx.size
      · go_wp2
        all_goals go_ret
        all_goals exact BPost.no w
      by_cases hc2 : 1048576 < S + ctx.size
      · go_wp2
        all_goals go_ret
        all_goals exact BPost.no w
      go_wp2
      go_ret
      exact ⟨⟨true, rfl, fun _ => ⟨by omega, HJ.out⟩⟩, rfl⟩

theorem idsMatch (a1 a2 : Option Addr) (n c1 c2 B1 B2 : Nat) (zs : List ByteArray) (w : World) (h1 : StrsAt w B1 (.slice a1 n c1) zs) (h2 : StrsAt w B2 (.slice a2 n c2) zs) (hl : zs.length = n) (hn : n ≤ 1048576) (hno : a1.isNone = a2.isNone) :
    Calls Tryf.prog 30 #[.slice a1 n c1, .slice a2 n c2] w fun e w' => e = .returned (.bool true) ∧ ∃ m, w' = w.drewN m := by
  have H1 := Lib.hid h1
  have H2 := Lib.hid h2
  have HL := Lib.hid hl
  clear h1 h2 hl
  have q1 : ∀ (w : World) (n c n' c' : Nat), (binOp .eql 56 (.slice a2 n c) (.slice none n' c')).run Tryf.prog w = .ok (.bool a2.isNone) w := fun w n c n' c' => Lib.run_eql_slice_nil w _ _ a2 n c n' c' Tryf.underlying56
  have q2 : ∀ (w : World) (n c n' c' : Nat), (binOp .eql 35 (.slice a1 n c) (.slice none n' c')).run Tryf.prog w = .ok (.bool a2.isNone) w := fun w n c n' c' => hno ▸ Lib.run_eql_slice_nil w _ _ a1 n c n' c' Tryf.underlying35
  clear hno
  generalize a2.isNone = u at q1 q2
  go_enter Tryf.func30, Tryf.ntmps30
  go_wp2_with fail
  refine (idsSame a1 a2 n c1 c2 B1 B2 zs _ H1.out H2.out HL.out hn).mono ?_
  rintro e w' ⟨rfl, m, rfl⟩
  go_wp2
  go_ret
  exact ⟨rfl, m, rfl⟩

theorem nbLoc (b k : Nat) (w : World) :
    Calls Tryf.prog 64 #[.pointer (some ⟨b, k, none⟩)] w fun e w' => e = .returned (.pointer (some ⟨b, k + 3, none⟩)) ∧ w = w' := by
  go_enter Tryf.func64, Tryf.ntmps64
  go_wp2
  go_ret
  exact ⟨rfl, rfl⟩

theorem newNB (a : Option Addr) (n c : Nat) (w : World) :
    Calls Tryf.prog 42 #[.agg #[.pointer none, .string ⟨#[]⟩, .int .i64 0, .int .i64 0, .int .i64 0, .int .i64 0], .slice none 0 0, .slice a n c] w fun e w' => e = .returned (.agg #[.slice none 0 0, .pointer none, .slice a n c, .pointer none, .string ⟨#[]⟩, .int .i64 0, .int .i64 0, .int .i64 0, .int .i64 0]) ∧ Below w.heap.size w w' := by
  go_enter Tryf.func42, Tryf.ntmps42
  go_wp2
  (try simp only [Exit.inBlock, Exit.then])
  refine bodyPost_ret (results_cell_row rfl _ _ _ _ _ _ _ rfl (get_new (by simp)) Tryf.underlying37 rfl (by kernel_rfl)) rfl ?_
  exact ⟨rfl, by refine Below.alloc (Below.alloc (Below.refl _ w) (Nat.le_refl _) _) (by simp) _⟩
set_option maxRecDepth 100000 in
theorem newLoc (w : World) :
    Calls Tryf.prog 25 #[.agg #[.pointer none, .string ⟨#[]⟩, .int .i64 0, .int .i64 0, .int .i64 0, .int .i64 0], .slice none 0 0] w fun e w' => (∃ b, e = .returned (.agg #[.slice none 0 0, .pointer none, .slice (some ⟨b, 0, none⟩) 0 0, .pointer none, .string ⟨#[]⟩, .int .i64 0, .int .i64 0, .int .i64 0, .int .i64 0])) ∧ Below w.heap.size w w' := by
  go_enter Tryf.func25, Tryf.ntmps25
  go_wp2_with fail
  generalize hX : ((w.alloc (.cells #[.pointer none, .string ⟨#[]⟩, .int .i64 0, .int .i64 0, .int .i64 0, .int .i64 0] 27 (0, 0))).alloc
    (.cells #[.slice none 0 0, .pointer none, .slice none 0 0, .pointer none, .string ⟨#[]⟩, .int .i64 0, .int .i64 0, .int .i64 0, .int .i64 0] 37 (0, 0))).alloc (.cells #[] 41 (0, 0)) = X
  have hr : X.heap[w.heap.size + 1]? = some (.cells #[.slice none 0 0, .pointer none, .slice none 0 0, .pointer none, .string ⟨#[]⟩, .int .i64 0, .int .i64 0, .int .i64 0, .int .i64 0] 37 (0, 0)) := by
    rw [← hX]; exact (get_old (by simp)).trans (get_new (by simp))
  have bX : Below w.heap.size w X := by rw [← hX]; exact Below.alloc (Below.alloc (Below.alloc (Below.refl _ w) (Nat.le_refl _) _) (by simp) _) (by simp; omega) _
  clear hX
  refine (newNB _ _ _ X).mono ?_
  rintro e w' ⟨rfl, hb⟩
  have hr' := (hb.block _ (Array.getElem?_eq_some_iff.1 hr).1).trans hr
  have HB := Lib.hid (bX.trans (hb.mono bX.size))
  have HR := Lib.hid hr'
  have k0 : w'.cell? ⟨w.heap.size + 1, 0, none⟩ = some (.slice none 0 0) := (cell_of_row _ _ 0 _ _ _ hr').trans rfl
  have k1 : w'.cell? ⟨w.heap.size + 1, 1, none⟩ = some (.pointer none) := (cell_of_row _ _ 1 _ _ _ hr').trans rfl
  have k2 : w'.cell? ⟨w.heap.size + 1, 2, none⟩ = some (.slice none 0 0) := (cell_of_row _ _ 2 _ _ _ hr').trans rfl
  have k3 : w'.cell? ⟨w.heap.size + 1, 3, none⟩ = some (.pointer none) := (cell_of_row _ _ 3 _ _ _ hr').trans rfl
  have k4 : w'.cell? ⟨w.heap.size + 1, 4, none⟩ = some (.string ⟨#[]⟩) := (cell_of_row _ _ 4 _ _ _ hr').trans rfl
  have k5 : w'.cell? ⟨w.heap.size + 1, 5, none⟩ = some (.int .i64 0) := (cell_of_row _ _ 5 _ _ _ hr').trans rfl
  have k6 : w'.cell? ⟨w.heap.size + 1, 6, none⟩ = some (.int .i64 0) := (cell_of_row _ _ 6 _ _ _ hr').trans rfl
  have k7 : w'.cell? ⟨w.heap.size + 1, 7, none⟩ = some (.int .i64 0) := (cell_of_row _ _ 7 _ _ _ hr').trans rfl
  have k8 : w'.cell? ⟨w.heap.size + 1, 8, none⟩ = some (.int .i64 0) := (cell_of_row _ _ 8 _ _ _ hr').trans rfl
  have zf : ∀ j, w'.frozen? ⟨w.heap.size + 1, j, none⟩ = false := frozen_of hr'
  clear hr hr' hb bX
  go_wp2
  have g0 := Lib.heap_setCell_same (i := 0) HR.out (.slice none 0 0)
  have g1 := Lib.heap_setCell_same (i := 1) g0 (.pointer none)
  have g2 := Lib.heap_setCell_same (i := 2) g1 (.slice (some ⟨w.heap.size + 1 + 1, 0, none⟩) 0 0)
  have g3 := Lib.heap_setCell_same (i := 3) g2 (.pointer none)
  have g4 := Lib.heap_setCell_same (i := 4) g3 (.string ⟨#[]⟩)
  have g5 := Lib.heap_setCell_same (i := 5) g4 (.int .i64 0)
  have g6 := Lib.heap_setCell_same (i := 6) g5 (.int .i64 0)
  have g7 := Lib.heap_setCell_same (i := 7) g6 (.int .i64 0)
  have g8 := Lib.heap_setCell_same (i := 8) g7 (.int .i64 0)
  have g9 := g8.trans (show _ = some (Obj.cells #[.slice none 0 0, .pointer none, .slice (some ⟨w.heap.size + 1 + 1, 0, none⟩) 0 0, .pointer none, .string ⟨#[]⟩, .int .i64 0, .int .i64 0, .int .i64 0, .int .i64 0] 37 (0, 0)) from rfl)
  clear g0 g1 g2 g3 g4 g5 g6 g7 g8
  (try simp only [Exit.inBlock, Exit.then])
  refine bodyPost_ret (results_cell_row rfl _ _ _ _ #[.slice none 0 0, .pointer none, .slice (some ⟨w.heap.size + 1 + 1, 0, none⟩) 0 0, .pointer none, .string ⟨#[]⟩, .int .i64 0, .int .i64 0, .int .i64 0, .int .i64 0] _ _ rfl g9 Tryf.underlying37 rfl (by kernel_rfl)) rfl ?_
  exact ⟨⟨_, rfl⟩, (Below.setCell (Below.setCell (Below.setCell (Below.setCell (Below.setCell (Below.setCell (Below.setCell (Below.setCell (Below.setCell HB.out (by show w.heap.size ≤ w.heap.size + 1; omega) _) (by show w.heap.size ≤ w.heap.size + 1; omega) _) (by show w.heap.size ≤ w.heap.size + 1; omega) _) (by show w.heap.size ≤ w.heap.size + 1; omega) _) (by show w.heap.size ≤ w.heap.size + 1; omega) _) (by show w.heap.size ≤ w.heap.size + 1; omega) _) (by show w.heap.size ≤ w.heap.size + 1; omega) _) (by show w.heap.size ≤ w.heap.size + 1; omega) _) (by show w.heap.size ≤ w.heap.size + 1; omega) _)⟩

end Go.Proofs.YtgmmbimbbkbjfaaFmt.fnFreeVariablesCloneIndependent
