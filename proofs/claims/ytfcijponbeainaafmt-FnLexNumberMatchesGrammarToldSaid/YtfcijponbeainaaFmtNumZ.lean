/-
  The laws' helpers on numbers: a fresh lexer's lexNumber.
-/
import Derived.Test.YtfcijponbeainaaFmtNumL
import Derived.Test.YtfcijponbeainaaFmtS64
import Derived.Test.YtfcijponbeainaaFmtNumQ
namespace Go.Proofs.YtfcijponbeainaaFmt
open Go Go.RowKit Go.Shelf Go.Extern.Stop Go.Stop

/-- What ZZLexNumber hands back. -/
def ZNum (w : World) (s : ByteArray) (a : Nat) (L : LexSt) (B n : Nat) (xs : List Value) (e : Ending) (w' : World) : Prop :=
  (e = .returned (.bool true) ∧ NumOk w s a L B n xs (.returned .nilIface) w') ∨ (e = .returned (.bool false) ∧ ∃ e1, NumNo w s a L e1 w')

set_option maxRecDepth 100000 in
theorem zzLexNumber (s : ByteArray) (a : Nat) (L : LexSt) (B n : Nat) (xs : List Value) (w : World) (H : Hid (Calls Tryf.prog 17 #[.pointer (some ⟨a, 0, none⟩)] w (NumPost w s a L B n xs))) :
    Calls Tryf.prog 9 #[.pointer (some ⟨a, 0, none⟩)] w (ZNum w s a L B n xs) := by
  go_enter Tryf.func9, Tryf.ntmps9
  go_wp2_with fail
  refine H.out.mono ?_
  rintro e w1 (⟨rfl, H1⟩ | ⟨⟨v, rfl⟩, H2⟩)
  · have HH := Lib.hid H1
    clear H1 H
    go_wp2
    go_ret
    exact .inl ⟨rfl, rfl, HH.out⟩
  · have HH := Lib.hid H2
    clear H2 H
    go_wp2
    go_ret
    exact .inr ⟨rfl, .returned (.iface 91 v), ⟨v, rfl⟩, HH.out⟩

/-- A fresh lexer's state behind lexNumber: a token, or none. -/
def FreshOk (s : ByteArray) (N : Nat) (w2 : World) : Prop :=
  ∃ k L2 g cap, numRun 0 s.data.toList 0 = some k ∧ k ≤ s.size ∧ LexAt w2 N L2 ∧ L2.bn = k ∧ L2.toks = .slice (some ⟨g, 0, none⟩) 1 cap ∧ w2.cell? ⟨g, 0 * 11 + 1, none⟩ = some (.string ⟨(numBuf s 0 k).toArray⟩) ∧ w2.cell? ⟨g, 0 * 11 + 10, none⟩ = some (.int .i64 11)
def FreshNo (s : ByteArray) (N : Nat) (w2 : World) : Prop := numRun 0 s.data.toList 0 = none ∧ ∃ L2, LexAt w2 N L2 ∧ L2.toks = .slice none 0 0
def Fresh (w0 : World) (s : ByteArray) (N : Nat) (w : World) (e : Ending) (w2 : World) : Prop :=
  ((e = .returned (.bool true) ∧ FreshOk s N w2) ∨ (e = .returned (.bool false) ∧ FreshNo s N w2)) ∧ Below w0.heap.size w w2 ∧ N < w2.heap.size

theorem freshNum (F : Interp) (s : ByteArray) (w0 w : World) (N M : Nat) (hN : w0.heap.size ≤ N) (hAt : LexAt w N (initSt ⟨#[]⟩ ⟨#[]⟩ s (.pointer (some ⟨M, 0, none⟩)))) (hsz : w0.heap.size ≤ w.heap.size) (h0 : 0 < s.size) (hs : s.size ≤ 1000000000) (hd : 48 ≤ byteAt s 0 ∧ byteAt s 0 ≤ 57) (hF : F.answers w.tape)
    (hT : Lib.Utf8Tabs 1 2 w) (ha0 : 1 ≠ N) (ha1 : 2 ≠ N) :
    Calls Tryf.prog 9 #[.pointer (some ⟨N, 0, none⟩)] w (Fresh w0 s N w) := by
  have hrune : (initSt ⟨#[]⟩ ⟨#[]⟩ s (.pointer (some ⟨M, 0, none⟩))).rune = (byteAt s 0 : Nat) := by
    rw [LexSt.rune_in h0]
    show ((Utf8.decode s 0).1 : Int) = _
    rw [decode_low s 0 h0 (by omega)]
  refine (zzLexNumber s N _ w0.heap.size 0 [] w (Lib.hid (lexNumber F s N (initSt ⟨#[]⟩ ⟨#[]⟩ s (.pointer (some ⟨M, 0, none⟩))) w0.heap.size 0 [] w hAt (inv_init _ _ _ _) hs _ rfl none 0 0 rfl (World.ownsRow_nil _ _ _ _) (by simp [initSt, Value.ownBlock]) hsz (by omega) (by rw [hrune]; omega) hF hT ha0 ha1))).mono ?_
  rintro e w2 (⟨rfl, _, k, g, cap, M2, hrun, hk, hL2, hown2, hbn2, hgN, hk2⟩ | ⟨rfl, _, _, hrun, ⟨k, hL2⟩, hg2⟩)
  · have hb2 : Below w0.heap.size w w2 := Kept.below hk2 (fun i hi => by
      rcases hi with hi | hi
      · rw [hi]; exact hN
      · simp [initSt, Value.ownBlock] at hi) hsz
    refine ⟨.inl ⟨rfl, k, _, g, cap, ?_, ?_, hL2, ?_, rfl, ?_, ?_⟩, hb2, Nat.lt_of_lt_of_le hAt.lt hk2.size⟩
    · have e : (initSt ⟨#[]⟩ ⟨#[]⟩ s (.pointer (some ⟨M, 0, none⟩))).bn = 0 := rfl
      rw [e, List.drop_zero] at hrun
      exact hrun
    · have : 0 + k ≤ s.size := hk
      omega
    · exact hbn2.trans (Nat.zero_add k)
    · rw [hown2.cellAt (0 * 11 + 1) (by omega)]
      rfl
    · rw [hown2.cellAt (0 * 11 + 10) (by omega)]
      rfl
  · refine ⟨.inr ⟨rfl, ?_, _, hL2, ?_⟩, ?_, hL2.lt⟩
    · have e : (initSt ⟨#[]⟩ ⟨#[]⟩ s (.pointer (some ⟨M, 0, none⟩))).bn = 0 := rfl
      rw [e, List.drop_zero] at hrun
      exact hrun
    · rw [(steps_keeps _ k).2.2.2.2.1]
      rfl
    · exact ⟨hg2.os, hg2.tape, hg2.output, hg2.size, fun i hi => hg2.block i (by omega) (fun e1 => by cases e1; omega)⟩

end Go.Proofs.YtfcijponbeainaaFmt
