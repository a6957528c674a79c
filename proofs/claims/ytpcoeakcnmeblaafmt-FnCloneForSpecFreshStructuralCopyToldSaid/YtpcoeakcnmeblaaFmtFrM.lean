/-
  zzMakeVar and zzFreshCopyOf (n008_165).
-/
import Derived.Test.YtpcoeakcnmeblaaFmtFrA
import Derived.Deep.Cut
import Derived.Deep.QuietTactic
import Derived.BigQuiet
import Derived.IntWalk
namespace Go.Proofs.YtpcoeakcnmeblaaFmt
open Go Go.RowKit
namespace Fr

set_option maxRecDepth 100000 in
theorem makeVar (tag : ByteArray) (line col : Int) (w : World) :
    Calls Tryf.prog 12 #[.string tag, .int .i64 line, .int .i64 col] w fun e w' => (∃ b g, e = .returned (ptr b) ∧ w.heap.size ≤ b ∧ w.heap.size ≤ g ∧ NodeAt w' b g tag line col) ∧ Below w.heap.size w w' := by
  go_enter Tryf.func12, Tryf.ntmps12
  go_wp2
  go_ret
  refine ⟨⟨w.heap.size, w.heap.size + 1, rfl, Nat.le_refl _, Nat.le_succ _, ?_, ?_⟩, ((Below.refl _ w).alloc (Nat.le_refl _) _).alloc (by simp) _⟩
  · exact (Below.heap_alloc _ _ _ (by simp)).trans (heap_alloc_new w _)
  · have := heap_alloc_new (w.alloc (.cells #[.string tag, .slice none 0 0, .pointer none, .slice (some ⟨w.heap.size + 1, 0, none⟩) 1 1, .pointer none, .string tag, .int .i64 line, .int .i64 col, .int .i64 0, .int .i64 0] 66)) (.cells #[.string tag] 37)
    rwa [show (w.alloc (.cells #[.string tag, .slice none 0 0, .pointer none, .slice (some ⟨w.heap.size + 1, 0, none⟩) 1 1, .pointer none, .string tag, .int .i64 line, .int .i64 col, .int .i64 0, .int .i64 0] 66)).heap.size = w.heap.size + 1 by simp] at this

theorem neqNil {tp te : TypeId} {n : Nat} (hp : Tryf.prog.underlying tp = some (.pointer te)) (w : World) : (binOp .neq tp (.pointer none) (.pointer none)).run Tryf.prog w = .ok (.bool false) w := run_neq_pointer_nil w tp none (by simp [Program.pointee, hp])
theorem eq_at {P : Program} {tp te : TypeId} {n : Nat} (hp : P.underlying tp = some (.pointer te)) (hs : (P.info? te).map (fun i => i.size) = some n) (hn : n ≠ 0) {W : World} {a b i j : Nat} {ca cb : Array Value} {ta tb : TypeId} (hne : a ≠ b)
    (ha : W.heap[a]? = some (.cells ca ta (0, 0))) (hb : W.heap[b]? = some (.cells cb tb (0, 0))) (m : Nat) : (binOp .eql tp (.pointer (some ⟨a, i, none⟩)) (.pointer (some ⟨b, j, none⟩))).run P (W.drewN m) = .ok (.bool false) (W.drewN m) := by
  obtain ⟨j, hj, hjs⟩ := info_size hs
  exact run_eql_ptr_other (W.drewN m) hp hj (by rw [hjs]; exact hn) (fun e => hne (by cases e; rfl)) ha hb

set_option maxHeartbeats 1600000 in
set_option maxRecDepth 100000 in
theorem freshCopy (b g b' g' cap : Nat) (tag : ByteArray) (line col : Int) (c : Array Value) (W : World) (hn : NodeAt W b g tag line col) (h3 : W.heap[b']? = some (.cells (varCells tag (nodeNB g' cap tag line col)) 66 (0, 0))) (h4 : W.heap[g']? = some (.cells c 37 (0, 0))) (h5 : c[0]? = some (.string tag)) (hbb : b' ≠ b) (hgg : g' ≠ g) :
    Calls Tryf.prog 10 #[.slice (some ⟨g', 0, none⟩) 1 cap, .pointer (some ⟨b', 4, none⟩), .bool true, .pointer (some ⟨b, 0, none⟩), .string tag, .int .i64 line, .int .i64 col] W fun e W' => e = .returned (.bool true) ∧ ∃ k, W' = W.drewN k := by
  have e1 : ∀ m, (binOp .eql 52 (.pointer (some ⟨b', 4, none⟩)) (.pointer (some ⟨b, 4, none⟩))).run Tryf.prog (W.drewN m) = .ok (.bool false) (W.drewN m) := eq_at (n := 6) Tryf.underlying52 (by kernel_rfl) (by decide) hbb h3 hn.1
  have e2 : ∀ m, (binOp .eql 67 (.pointer (some ⟨g', 0, none⟩)) (.pointer (some ⟨g, 0, none⟩))).run Tryf.prog (W.drewN m) = .ok (.bool false) (W.drewN m) := eq_at (n := 1) Tryf.underlying67 (by kernel_rfl) (by decide) hgg h4 hn.2
  have e0 := e1 0
  simp only [World.drewN_zero] at e0
  have v0 : W.cell? ⟨b, 0, none⟩ = some (.string tag) := (cell_of_row W b 0 _ _ _ hn.1).trans rfl
  have v2 : W.cell? ⟨b, 2, none⟩ = some (.pointer none) := (cell_of_row W b 2 _ _ _ hn.1).trans rfl
  have v3 : W.cell? ⟨b, 3, none⟩ = some (.slice (some ⟨g, 0, none⟩) 1 1) := (cell_of_row W b 3 _ _ _ hn.1).trans rfl
  have v4 : W.cell? ⟨b, 4, none⟩ = some (.pointer none) := (cell_of_row W b 4 _ _ _ hn.1).trans rfl
  have v5 : W.cell? ⟨b, 5, none⟩ = some (.string tag) := (cell_of_row W b 5 _ _ _ hn.1).trans rfl
  have v6 : W.cell? ⟨b, 6, none⟩ = some (.int .i64 line) := (cell_of_row W b 6 _ _ _ hn.1).trans rfl
  have v7 : W.cell? ⟨b, 7, none⟩ = some (.int .i64 col) := (cell_of_row W b 7 _ _ _ hn.1).trans rfl
  have v8 : W.cell? ⟨b, 8, none⟩ = some (.int .i64 0) := (cell_of_row W b 8 _ _ _ hn.1).trans rfl
  have v9 : W.cell? ⟨b, 9, none⟩ = some (.int .i64 0) := (cell_of_row W b 9 _ _ _ hn.1).trans rfl
  have u4 : W.cell? ⟨b', 4, none⟩ = some (.pointer none) := (cell_of_row W b' 4 _ _ _ h3).trans rfl
  have u5 : W.cell? ⟨b', 5, none⟩ = some (.string tag) := (cell_of_row W b' 5 _ _ _ h3).trans rfl
  have u6 : W.cell? ⟨b', 6, none⟩ = some (.int .i64 line) := (cell_of_row W b' 6 _ _ _ h3).trans rfl
  have u7 : W.cell? ⟨b', 7, none⟩ = some (.int .i64 col) := (cell_of_row W b' 7 _ _ _ h3).trans rfl
  have u8 : W.cell? ⟨b', 8, none⟩ = some (.int .i64 0) := (cell_of_row W b' 8 _ _ _ h3).trans rfl
  have u9 : W.cell? ⟨b', 9, none⟩ = some (.int .i64 0) := (cell_of_row W b' 9 _ _ _ h3).trans rfl
  have q0 : W.cell? ⟨g, 0, none⟩ = some (.string tag) := (cell_of_row W g 0 _ _ _ hn.2).trans rfl
  have p0 : W.cell? ⟨g', 0, none⟩ = some (.string tag) := (cell_of_row W g' 0 _ _ _ h4).trans h5
  have n1 : ∀ w, (binOp .neq 55 (.pointer none) (.pointer none)).run Tryf.prog w = .ok (.bool false) w := fun w => run_neq_pointer_nil w _ none (by simp [Program.pointee, Tryf.underlying55])
  have n2 : ∀ w, (binOp .neq 58 (.pointer none) (.pointer none)).run Tryf.prog w = .ok (.bool false) w := fun w => run_neq_pointer_nil w _ none (by simp [Program.pointee, Tryf.underlying58])
  clear hn h3 h4 h5
  go_enter Tryf.func10, Tryf.ntmps10
  go_wp2_with fail
  go_quiet (fail)
  go_wp2_with fail
  go_quiet (fail)
  go_wp2
  go_ret
  exact ⟨rfl, _, World.drewN_drewN _ _ _⟩

end Fr
end Go.Proofs.YtpcoeakcnmeblaaFmt
