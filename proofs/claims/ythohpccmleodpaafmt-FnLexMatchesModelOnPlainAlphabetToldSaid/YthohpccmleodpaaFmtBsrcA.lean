/-
  Small laws for a walk that ranges over a text and fills a row of strings.
-/
import Derived.Test.YthohpccmleodpaaFmtShelf
import Derived.Test.YthohpccmleodpaaFmtMem
import Derived.Test.YthohpccmleodpaaFmtLines
import Derived.WalkSpells
import Derived.Lib.BufferRune
import Derived.Lib.QuoteLoop
import Derived.Lib.DecodeN
import Derived.Lib.SmallJoins
namespace Go.Proofs.YthohpccmleodpaaFmt
open Go Go.RowKit Go.Shelf

theorem infoStr : (Tryf.prog.info? 9).map (fun i => (i.zero, i.size, i.bytes)) = some (some (.string ⟨#[]⟩), 1, 16) := by kernel_rfl

theorem strV_snoc (l : List UInt8) : strV (l ++ [10]) = .string ((⟨l.toArray⟩ : ByteArray) ++ ⟨#[10]⟩) := by
  unfold strV
  congr 1

theorem width_pos (s : ByteArray) (pos : Nat) (h : pos < s.size) : 1 ≤ (Utf8.decode s pos).2 := Lib.decode_width_pos s pos h

theorem width_le (s : ByteArray) (pos : Nat) (h : pos < s.size) : pos + (Utf8.decode s pos).2 ≤ s.size := by
  have h1 := Lib.decodeN_width_le (s.size - pos) (s.get! pos).toNat (s.get! (pos + 1)).toNat (s.get! (pos + 2)).toNat (s.get! (pos + 3)).toNat (by omega)
  rw [Lib.decode_at]
  omega
theorem ownsRow_iter {w : World} {base : Nat} {e : TypeId} {size : Nat} {v : Value} {n : Nat} {xs : List Value} {k : Nat} {s : ByteArray} {pos : Nat} (h : w.ownsRow base e size v n xs) (hk : w.heap[k]? = some (.stringIter s pos)) (pos' : Nat) :
    (w.iterAt k s pos').ownsRow base e size v n xs := by
  refine ownsRow_same h fun g hg => ?_
  obtain ⟨c, fz, hc⟩ := Lib.ownsRow_kind h g hg
  exact Lib.iterAt_other w k g s pos' (fun e1 => by subst e1; rw [hk] at hc; cases hc)


end Go.Proofs.YthohpccmleodpaaFmt
