/-
  The walk of FnParseObjectAssignmentOpCaseTable.
-/
import Derived.Test.YtgdccdhkknbahaaFmtPoB
namespace Go.Proofs.YtgdccdhkknbahaaFmt.fnParseObjectAssignmentOpCaseTable
open Go Go.RowKit Go.Extern.Stop Go.Stop Go.Extern

theorem opTok_of {w : World} {B g n cap : Nat} {op : ByteArray} {ys : List Value} (ho : w.ownsRow B 64 11 (.slice (some ⟨g, 0, none⟩) n cap) n (tokVals 12 op ++ ys)) : OpTok w g op := fun i v hv => by
  have hi : i < (tokVals 12 op).length := by
    rcases Nat.lt_or_ge i (tokVals 12 op).length with h | h
    · exact h
    · rw [List.getElem?_eq_none h] at hv; cases hv
  have hl := ho.1
  rw [List.length_append] at hl
  rw [ho.cellAt i (by omega), List.getElem?_append_left hi]
  exact hv
theorem zzMakePar (a : Option Addr) (n c : Nat) (w : World) :
    Calls Tryf.prog 16 #[.slice a n c] w fun e w' => e = .returned (.pointer (some ⟨w.heap.size, 0, none⟩)) ∧ w.alloc (.cells #[.slice a n c, .int .i64 0] 81 (0, 0)) = w' := by
  go_enter Tryf.func16, Tryf.ntmps16
  go_wp2_with fail
  refine (makePar _ _ _ w).mono ?_
  rintro e w4 ⟨rfl, rfl⟩
  go_wp2
  go_ret
  exact ⟨rfl, rfl⟩
theorem zzCurr (pb : Nat) (v : Int) (w : World) (h : w.cell? ⟨pb, 1, none⟩ = some (.int .i64 v)) :
    Calls Tryf.prog 18 #[.pointer (some ⟨pb, 0, none⟩)] w fun e w' => e = .returned (.int .i64 v) ∧ w = w' := by
  go_enter Tryf.func18, Tryf.ntmps18
  go_wp2
  go_ret
  exact ⟨rfl, rfl⟩
/-- parseObjectAssignmentOp's answer at a text of at least one byte. -/
def Ans (op : List UInt8) (e : Ending) : Prop := match op with
  | [] => False
  | c :: r => if c = 43 then Out true r e else Out false (c :: r) e
def DoneA (pb : Nat) (op : List UInt8) (w : World) (e : Ending) (w' : World) : Prop := (Ans op e ∧ w'.cell? ⟨pb, 1, none⟩ = some (.int .i64 1)) ∧ Below pb w w'
theorem parse (F : Interp) (pb g cap : Nat) (c : UInt8) (r : List UInt8) (w : World) (hF : F.answers w.tape) (h : w.heap[pb]? = some (.cells #[.slice (some ⟨g, 0, none⟩) 2 cap, .int .i64 0] 81 (0, 0))) (ht : OpTok w g ⟨(c :: r).toArray⟩) (hg : g < pb) (hr : r.length ≤ 1048576) :
    Calls Tryf.prog 32 #[.pointer (some ⟨pb, 0, none⟩)] w (DoneA pb (c :: r) w) := by
  by_cases hp : c = 43
  · refine (parse_plus F pb g cap c r w hp hF h ht hg hr).mono fun e w' ⟨⟨h1, h2⟩, h3⟩ => ⟨⟨?_, h2⟩, h3⟩
    show (if c = 43 then _ else _)
    rw [if_pos hp]; exact h1
  · refine (parse_plain F pb g cap c r w hp hF h ht hg hr).mono fun e w' ⟨⟨h1, h2⟩, h3⟩ => ⟨⟨?_, h2⟩, h3⟩
    show (if c = 43 then _ else _)
    rw [if_neg hp]; exact h1
theorem zzParse (F : Interp) (pb g cap : Nat) (c : UInt8) (r : List UInt8) (w : World) (hF : F.answers w.tape) (h : w.heap[pb]? = some (.cells #[.slice (some ⟨g, 0, none⟩) 2 cap, .int .i64 0] 81 (0, 0))) (ht : OpTok w g ⟨(c :: r).toArray⟩) (hg : g < pb) (hr : r.length ≤ 1048576) :
    Calls Tryf.prog 17 #[.pointer (some ⟨pb, 0, none⟩)] w (DoneA pb (c :: r) w) := by
  have H := Lib.hid (parse F pb g cap c r w hF h ht hg hr)
  clear h ht hF
  go_enter Tryf.func17, Tryf.ntmps17
  go_wp2_with fail
  refine H.out.mono ?_
  rintro e w' hd
  have hd' := hd
  obtain ⟨⟨hA, _⟩, _⟩ := hd
  obtain ⟨p, hh, err, rfl⟩ : ∃ p hh err, e = .returned (.tuple #[.slice none 0 0, .bool p, .int .i64 hh, err]) := by
    unfold Ans at hA
    simp only at hA
    split at hA
    · obtain ⟨h, err, h1, _⟩ := hA; exact ⟨_, _, _, h1⟩
    · obtain ⟨h, err, h1, _⟩ := hA; exact ⟨_, _, _, h1⟩
  have HD := Lib.hid hd'
  clear hd' hA
  go_wp2
  refine bodyPost_ret (results_tmp4 rfl _ _ _) rfl ?_
  exact HD.out

end Go.Proofs.YtgdccdhkknbahaaFmt.fnParseObjectAssignmentOpCaseTable
