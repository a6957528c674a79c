/-
  Pointers to two heads; ranges of locations compared; worlds laid block by block.
-/
import Derived.Test.YtpcoeakcnmeblaaFmtCloneL
import Derived.Laws.StructEq
import Derived.Laws.Pointers
import Derived.LaidEqlPtr
namespace Go.Proofs.YtpcoeakcnmeblaaFmt
open Go Go.RowKit

theorem info_size {P : Program} {T : TypeId} {n : Nat} (h : (P.info? T).map (fun i => i.size) = some n) : ∃ j, P.info? T = some j ∧ j.size = n := by
  cases hj : P.info? T with
  | none => rw [hj] at h; cases h
  | some j => rw [hj] at h; exact ⟨j, rfl, by simpa using h⟩
/-- Two nodes at two heads. -/
theorem eq_heads {P : Program} {tp te : TypeId} {n : Nat} (hp : P.underlying tp = some (.pointer te)) (hs : (P.info? te).map (fun i => i.size) = some n) (hn : n ≠ 0) {W : World} {a b : Nat} {ca cb : Array Value} {ta tb : TypeId} (hne : a ≠ b)
    (ha : W.heap[a]? = some (.cells ca ta (0, 0))) (hb : W.heap[b]? = some (.cells cb tb (0, 0))) (m : Nat) : (binOp .eql tp (.pointer (some ⟨a, 0, none⟩)) (.pointer (some ⟨b, 0, none⟩))).run P (W.drewN m) = .ok (.bool false) (W.drewN m) := by
  obtain ⟨j, hj, hjs⟩ := info_size hs
  exact run_eql_ptr_other (W.drewN m) hp hj (by rw [hjs]; exact hn) (fun e => hne (by cases e; rfl)) ha hb

theorem eqLoc2 (a b : Int) (w : World) : (Op.equalIn 9999 60 (.agg #[.int .i64 a, .int .i64 b]) (.agg #[.int .i64 a, .int .i64 b])).run Tryf.prog w = .ok true w := by
  have hS : Tryf.prog.underlying 60 = some (.struct (Tryf.prog.fieldsOf 60)) := by kernel_rfl
  have hp : Tryf.prog.stoodInHeld 60 = false := by kernel_rfl
  have u3 := Tryf.underlying3
  have a3 := Tryf.isAgg3
  have z3 := Tryf.sizeOf3
  rw [show (9999 : Nat) = 9998 + 1 from rfl, run_equalIn_agg w 9998 60 _ _ hS hp]
  simp only [Program.fieldsOf, Tryf.underlying60]
  clear hS hp
  go_simp
@[go_sem] theorem eqSrc (w : World) : (Op.equalIn 9999 58 (.pointer none) (.pointer none)).run Tryf.prog w = .ok true w := run_equalIn_pointer_nil w 9998 58 none (by kernel_rfl)
/-- A range of locations is equal to itself. -/
@[go_sem] theorem eqLoc (s : ByteArray) (a b c d : Int) (w : World) : (Op.equalIn 10000 62 (.agg #[.pointer none, .string s, .int .i64 a, .int .i64 b, .int .i64 c, .int .i64 d]) (.agg #[.pointer none, .string s, .int .i64 a, .int .i64 b, .int .i64 c, .int .i64 d])).run Tryf.prog w = .ok true w := by
  have hS : Tryf.prog.underlying 62 = some (.struct (Tryf.prog.fieldsOf 62)) := by kernel_rfl
  have hp : Tryf.prog.stoodInHeld 62 = false := by kernel_rfl
  have e1 : ∀ w, (Op.equalIn 9999 58 (.pointer none) (.pointer none)).run Tryf.prog w = .ok true w := fun w => run_equalIn_pointer_nil w 9998 58 none (by kernel_rfl)
  have e2 := eqLoc2
  have u9 := Tryf.underlying9
  have a1 := Tryf.isAgg58
  have z1 := Tryf.sizeOf58
  have a2 := Tryf.isAgg60
  have z2 := Tryf.sizeOf60
  have a3 := Tryf.isAgg3
  have z3 := Tryf.sizeOf3
  have a9 := Tryf.isAgg9
  have z9 := Tryf.sizeOf9
  rw [show (10000 : Nat) = 9999 + 1 from rfl, run_equalIn_agg w 9999 62 _ _ hS hp]
  simp only [Program.fieldsOf, Tryf.underlying62]
  clear hS hp
  go_simp

theorem get_old {w : World} {o : Obj} {i : Nat} (h : i < w.heap.size) : (w.alloc o).heap[i]? = w.heap[i]? := Below.heap_alloc w o i h
theorem get_new {w : World} {o : Obj} {i : Nat} (h : i = w.heap.size) : (w.alloc o).heap[i]? = some o := by subst h; exact heap_alloc_new w o

end Go.Proofs.YtpcoeakcnmeblaaFmt
