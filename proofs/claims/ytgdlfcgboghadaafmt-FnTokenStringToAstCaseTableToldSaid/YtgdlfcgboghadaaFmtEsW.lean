/-
  What both laws on escapes lean on: the listed error's cell; the bounds; the environment.
-/
import Derived.Test.YtgdlfcgboghadaaFmtEsZ
import Derived.Test.YtgdlfcgboghadaaFmtEsV
import Derived.Test.YtgdlfcgboghadaaFmtLaidTabs
namespace Go.Proofs.YtgdlfcgboghadaaFmt
open Go Go.RowKit Go.Shelf Go.Extern.Stop Go.Stop

theorem errCell {w : World} {d : DataW Unit} (h : Lib.VarReads Tryf.prog w "encoding/hex.ErrLength" d) : ∃ ev, w.cell? ⟨5, 0, none⟩ = some ev := by
  obtain ⟨g, t, cs, fuel, p, hg, hty, hvar, hd⟩ := h
  obtain rfl := Option.some.inj ((show Tryf.prog.globalNamed "encoding/hex.ErrLength" = some 5 by kernel_rfl).symm.trans hg)
  obtain rfl := Option.some.inj ((show (Tryf.prog.globals[5]?).map (·.type) = some 66 by kernel_rfl).symm.trans hty)
  have hc := World.var?_cell hg hvar 0
  rw [hc]
  cases hcs : cs.toList with
  | nil =>
    exfalso
    rw [hcs] at hd
    cases fuel with
    | zero => simp [DataW.trod] at hd
    | succ f => simp [DataW.trod, Tryf.underlying66] at hd
  | cons v r => exact ⟨v, by rw [← Array.getElem?_toList, hcs]; rfl⟩
theorem envOf {F : Interp} {l : List (String × DataW Unit)} {w : World} (hF : F.answers w.tape) (hp : (l.all fun x => x.2.handleName?.isNone) = true) (h3 : ("unicode/utf8.first", Rows.laid_unicode_utf8_first) ∈ l) (h4 : ("unicode/utf8.acceptRanges", Rows.laid_unicode_utf8_acceptRanges) ∈ l) (h5 : ("encoding/hex.ErrLength", Rows.laid_encoding_hex_ErrLength) ∈ l) (h : laidMetH Tryf.prog l w) : ∃ ev, Env F ev w := by
  have hT := tabs_of_laid hp h3 h4 h
  rw [MakeChecks.laidMetH_plain _ _ _ hp] at h
  obtain ⟨ev, hev⟩ := errCell (Lib.laidMet.reads h h5)
  exact ⟨ev, hF, hev, hT⟩

/-! ### the bounds -/
theorem cBytes (s t : ByteArray) (w : World) (hs : s.size ≤ maxLen) (ht : t.size ≤ maxLen) :
    Calls Tryf.prog 6 #[.string s, .string t] w fun e w' => e = .returned (.bool (decide (s.size + t.size ≤ 1048576))) ∧ w = w' := by
  unfold maxLen at hs ht
  by_cases q1 : 1048576 < s.size
  · have e1 : decide (s.size + t.size ≤ 1048576) = false := decide_eq_false (by omega)
    have t1 : (1048576 : Int) < (s.size : Int) := by omega
    rw [e1]
    clear e1
    go_enter Tryf.func6, Tryf.ntmps6
    go_wp2
    go_ret
    exact ⟨rfl, rfl⟩
  have t1 : ¬ (1048576 : Int) < (s.size : Int) := by omega
  by_cases q2 : 1048576 < t.size
  · have e1 : decide (s.size + t.size ≤ 1048576) = false := decide_eq_false (by omega)
    have t2 : (1048576 : Int) < (t.size : Int) := by omega
    rw [e1]
    clear e1
    go_enter Tryf.func6, Tryf.ntmps6
    go_wp2
    go_ret
    exact ⟨rfl, rfl⟩
  have t2 : ¬ (1048576 : Int) < (t.size : Int) := by omega
  by_cases q3 : 1048576 < s.size + t.size
  · have e1 : decide (s.size + t.size ≤ 1048576) = false := decide_eq_false (by omega)
    have t3 : (1048576 : Int) < (s.size : Int) + (t.size : Int) := by omega
    rw [e1]
    clear e1
    go_enter Tryf.func6, Tryf.ntmps6
    go_wp2
    go_ret
    exact ⟨rfl, rfl⟩
  · have e1 : decide (s.size + t.size ≤ 1048576) = true := decide_eq_true (by omega)
    have t3 : ¬ (1048576 : Int) < (s.size : Int) + (t.size : Int) := by omega
    rw [e1]
    clear e1
    go_enter Tryf.func6, Tryf.ntmps6
    go_wp2
    go_ret
    exact ⟨rfl, rfl⟩

theorem sizeApp (s t : ByteArray) : (s ++ t).size = s.size + t.size := ByteArray.size_append
theorem zzDoubleB {F : Interp} {ev : Value} {w : World} (h : Env F ev w) (d bi bt : ByteArray) (hd : d.size ≤ 4000000) (b : Bool) (hb : okAt d 0 = b) :
    Calls Tryf.prog 7 #[.int .i64 14, .string d, .string bi, .string bt] w (ZPost d ⟨#[]⟩ ⟨#[]⟩ 1 b w) := hb ▸ zzDouble h d bi bt hd
theorem zzSingleB {F : Interp} {ev : Value} {w : World} (h : Env F ev w) (d bi bt : ByteArray) (hd : d.size ≤ 4000000) (b : Bool) (hb : okAt d 0 = b) :
    Calls Tryf.prog 7 #[.int .i64 15, .string d, .string bi, .string bt] w (ZPost d ⟨#[]⟩ ⟨#[]⟩ 0 b w) := hb ▸ zzSingle h d bi bt hd

end Go.Proofs.YtgdlfcgboghadaaFmt
