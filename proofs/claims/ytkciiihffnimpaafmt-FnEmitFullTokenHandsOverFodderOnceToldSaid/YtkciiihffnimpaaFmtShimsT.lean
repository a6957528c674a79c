/-
  The laws' shims that read tokens.
-/
import Derived.Test.YtkciiihffnimpaaFmtEmitC
import Derived.Test.YtkciiihffnimpaaFmtShims
namespace Go.Proofs.YtkciiihffnimpaaFmt
open Go Go.RowKit Go.Shelf

theorem zzTokenAt (a g n cap i : Nat) (L : LexSt) (w : World) (h : LexAt w a L) (hL : L.toks = .slice (some ⟨g, 0, none⟩) n cap) (hi : i < n) (fp : Option Addr) (fn fc : Nat) (data si st im : ByteArray) (sp : Option Addr) (l1 c1 l2 c2 k : Int)
    (hrow : ∀ j, j < 11 → w.cell? ⟨g, i * 11 + j, none⟩ = (tokCells (.slice fp fn fc) data si st (.pointer sp) im l1 c1 l2 c2 k)[j]?) (_hi2 : n ≤ 1000000000000) :
    Calls Tryf.prog 22 #[.pointer (some ⟨a, 0, none⟩), .int .i64 i] w fun e w' => e = .returned (.tuple #[.int .i64 k, .string data, .string si, .string st, .int .i64 fn]) ∧ Below w.heap.size w w' := by
  have c4 : w.cell? ⟨a, 4, none⟩ = some (.slice (some ⟨g, 0, none⟩) n cap) := (h.cell 4).trans (by rw [← hL]; rfl)
  have r0 := hrow 0 (by omega)
  have r1 := hrow 1 (by omega)
  have r2 := hrow 2 (by omega)
  have r3 := hrow 3 (by omega)
  have r4 := hrow 4 (by omega)
  have r5 := hrow 5 (by omega)
  have r6 := hrow 6 (by omega)
  have r7 := hrow 7 (by omega)
  have r8 := hrow 8 (by omega)
  have r9 := hrow 9 (by omega)
  have r10 := hrow 10 (by omega)
  simp only [tokCells, List.getElem?_cons_zero, List.getElem?_cons_succ, Nat.add_zero] at r0 r1 r2 r3 r4 r5 r6 r7 r8 r9 r10
  have q0 : (0 : Int) ≤ (i : Int) := Int.natCast_nonneg _
  have q1 : (i : Int) < (n : Int) := by omega
  clear hrow h
  go_enter Tryf.func22, Tryf.ntmps22
  go_wp2_with fail
  go_quiet (fail)
  go_wp2
  exact bodyPost_ret (v := .tuple #[.int .i64 k, .string data, .string si, .string st, .int .i64 fn]) (by simp [results, Tryf.results22, go_sem]) rfl ⟨rfl, drewN_below ((Below.refl _ w).alloc (Nat.le_refl _) _) _⟩

end Go.Proofs.YtkciiihffnimpaaFmt
