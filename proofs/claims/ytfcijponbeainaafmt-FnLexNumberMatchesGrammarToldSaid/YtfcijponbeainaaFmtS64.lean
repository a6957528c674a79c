/-
  The shims of n008_164 that make a lexer and read it.
-/
import Derived.Test.YtfcijponbeainaaFmtEmitC
import Derived.Test.YtfcijponbeainaaFmtNl
import Derived.Test.YtfcijponbeainaaFmtShims
namespace Go.Proofs.YtfcijponbeainaaFmt
open Go Go.RowKit Go.Shelf

theorem zzMake164 (s : ByteArray) (hs : s.size ≤ 1099511627775) (w : World) : Calls Tryf.prog 8 #[.string s] w (Made w ⟨#[]⟩ ⟨#[]⟩ s) := by
  go_enter Tryf.func8, Tryf.ntmps8
  go_wp2_with fail
  refine (makeLexer ⟨#[]⟩ ⟨#[]⟩ s (by omega) _).mono ?_
  rintro e w' ⟨N, M, rfl, h⟩
  go_wp2
  go_ret
  exact ⟨N, M, rfl, h⟩

theorem zzPos164 (a : Nat) (L : LexSt) (w : World) (h : LexAt w a L) :
    Calls Tryf.prog 13 #[.pointer (some ⟨a, 0, none⟩)] w fun e w' => e = .returned (.int .i64 L.bn) ∧ w = w' := by
  have c10 : w.cell? ⟨a, 10, none⟩ = some (.int .i64 L.bn) := h.cell 10
  clear h
  go_enter Tryf.func13, Tryf.ntmps13
  go_wp2
  go_ret
  exact ⟨rfl, rfl⟩

theorem zzCount164 (a : Nat) (L : LexSt) (w : World) (h : LexAt w a L) (p : Option Addr) (n c : Nat) (hf : L.toks = .slice p n c) :
    Calls Tryf.prog 10 #[.pointer (some ⟨a, 0, none⟩)] w fun e w' => e = .returned (.int .i64 n) ∧ w = w' := by
  have c4 : w.cell? ⟨a, 4, none⟩ = some (.slice p n c) := by rw [← hf]; exact h.cell 4
  clear h hf
  go_enter Tryf.func10, Tryf.ntmps10
  go_wp2
  go_ret
  exact ⟨rfl, rfl⟩

theorem zzData164 (a g n cap i : Nat) (z : Int) (hz : z = i) (L : LexSt) (w : World) (h : LexAt w a L) (hL : L.toks = .slice (some ⟨g, 0, none⟩) n cap) (hi : i < n) (hn : n ≤ 1000000000000) (data : ByteArray) (hrow : w.cell? ⟨g, i * 11 + 1, none⟩ = some (.string data)) :
    Calls Tryf.prog 11 #[.pointer (some ⟨a, 0, none⟩), .int .i64 z] w fun e w' => e = .returned (.string data) ∧ w = w' := by
  subst hz
  have c4 : w.cell? ⟨a, 4, none⟩ = some (.slice (some ⟨g, 0, none⟩) n cap) := (h.cell 4).trans (by rw [← hL]; rfl)
  have q0 : (0 : Int) ≤ (i : Int) := Int.natCast_nonneg _
  have q1 : (i : Int) < (n : Int) := by omega
  clear h
  go_enter Tryf.func11, Tryf.ntmps11
  go_wp2
  go_ret
  exact ⟨rfl, rfl⟩

theorem zzKind164 (a g n cap i : Nat) (z : Int) (hz : z = i) (L : LexSt) (w : World) (h : LexAt w a L) (hL : L.toks = .slice (some ⟨g, 0, none⟩) n cap) (hi : i < n) (hn : n ≤ 1000000000000) (k : Int) (hrow : w.cell? ⟨g, i * 11 + 10, none⟩ = some (.int .i64 k)) :
    Calls Tryf.prog 12 #[.pointer (some ⟨a, 0, none⟩), .int .i64 z] w fun e w' => e = .returned (.int .i64 k) ∧ w = w' := by
  subst hz
  have c4 : w.cell? ⟨a, 4, none⟩ = some (.slice (some ⟨g, 0, none⟩) n cap) := (h.cell 4).trans (by rw [← hL]; rfl)
  have q0 : (0 : Int) ≤ (i : Int) := Int.natCast_nonneg _
  have q1 : (i : Int) < (n : Int) := by omega
  clear h
  go_enter Tryf.func12, Tryf.ntmps12
  go_wp2
  go_ret
  exact ⟨rfl, rfl⟩

end Go.Proofs.YtfcijponbeainaaFmt
