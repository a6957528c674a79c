/-
  The shims of n008_164 that make a lexer and read it.
-/
import Derived.Test.YtgdlfcgboghadaaFmtEmitC
import Derived.Test.YtgdlfcgboghadaaFmtNl
import Derived.Test.YtgdlfcgboghadaaFmtShims
namespace Go.Proofs.YtgdlfcgboghadaaFmt
open Go Go.RowKit Go.Shelf

theorem zzMake164 (s : ByteArray) (hs : s.size ≤ 1099511627775) (w : World) : Calls Tryf.prog 14 #[.string s] w (Made w ⟨#[]⟩ ⟨#[]⟩ s) := by
  go_enter Tryf.func14, Tryf.ntmps14
  go_wp2_with fail
  refine (makeLexer ⟨#[]⟩ ⟨#[]⟩ s (by omega) _).mono ?_
  rintro e w' ⟨N, M, rfl, h⟩
  go_wp2
  go_ret
  exact ⟨N, M, rfl, h⟩

theorem zzPos164 (a : Nat) (L : LexSt) (w : World) (h : LexAt w a L) :
    Calls Tryf.prog 18 #[.pointer (some ⟨a, 0, none⟩)] w fun e w' => e = .returned (.int .i64 L.bn) ∧ w = w' := by
  have c10 : w.cell? ⟨a, 10, none⟩ = some (.int .i64 L.bn) := h.cell 10
  clear h
  go_enter Tryf.func18, Tryf.ntmps18
  go_wp2
  go_ret
  exact ⟨rfl, rfl⟩

theorem zzCount164 (a : Nat) (L : LexSt) (w : World) (h : LexAt w a L) (p : Option Addr) (n c : Nat) (hf : L.toks = .slice p n c) :
    Calls Tryf.prog 16 #[.pointer (some ⟨a, 0, none⟩)] w fun e w' => e = .returned (.int .i64 n) ∧ w = w' := by
  have c4 : w.cell? ⟨a, 4, none⟩ = some (.slice p n c) := by rw [← hf]; exact h.cell 4
  clear h hf
  go_enter Tryf.func16, Tryf.ntmps16
  go_wp2
  go_ret
  exact ⟨rfl, rfl⟩

end Go.Proofs.YtgdlfcgboghadaaFmt
