/-
  lexNumber: what the automaton takes becomes one token; what it refuses is an error.
-/
import Derived.Test.YthohpccmleodpaaFmtNumT
import Derived.Test.YthohpccmleodpaaFmtErr
import Derived.Test.YthohpccmleodpaaFmtEsc
import Derived.Test.YthohpccmleodpaaFmtFmtP
import Derived.Test.YthohpccmleodpaaFmtShims
import Derived.Lib.BufferRune
import Derived.Deep.CutBlock
namespace Go.Proofs.YthohpccmleodpaaFmt
open Go Go.RowKit Go.Shelf Go.Extern.Stop Go.Stop

def nfm0 : ByteArray := ⟨#[67, 111, 117, 108, 100, 110, 39, 116, 32, 108, 101, 120, 32, 110, 117, 109, 98, 101, 114, 44, 32, 106, 117, 110, 107, 32, 97, 102, 116, 101, 114, 32, 39, 69, 39, 58, 32, 37, 118]⟩
theorem nfm01 : Extern.FmtStop.printed? nfm0 1 = some [(0, 118, false)] := by kernel_rfl
def nfm1 : ByteArray := ⟨#[67, 111, 117, 108, 100, 110, 39, 116, 32, 108, 101, 120, 32, 110, 117, 109, 98, 101, 114, 44, 32, 106, 117, 110, 107, 32, 97, 102, 116, 101, 114, 32, 39, 95, 39, 58, 32, 37, 118]⟩
theorem nfm11 : Extern.FmtStop.printed? nfm1 1 = some [(0, 118, false)] := by kernel_rfl
def nfm2 : ByteArray := ⟨#[67, 111, 117, 108, 100, 110, 39, 116, 32, 108, 101, 120, 32, 110, 117, 109, 98, 101, 114, 44, 32, 106, 117, 110, 107, 32, 97, 102, 116, 101, 114, 32, 100, 101, 99, 105, 109, 97, 108, 32, 112, 111, 105, 110, 116, 58, 32, 37, 118]⟩
theorem nfm21 : Extern.FmtStop.printed? nfm2 1 = some [(0, 118, false)] := by kernel_rfl
def nfm3 : ByteArray := ⟨#[67, 111, 117, 108, 100, 110, 39, 116, 32, 108, 101, 120, 32, 110, 117, 109, 98, 101, 114, 44, 32, 106, 117, 110, 107, 32, 97, 102, 116, 101, 114, 32, 101, 120, 112, 111, 110, 101, 110, 116, 32, 115, 105, 103, 110, 58, 32, 37, 118]⟩
theorem nfm31 : Extern.FmtStop.printed? nfm3 1 = some [(0, 118, false)] := by kernel_rfl
def nfmZ : ByteArray := ⟨#[67, 111, 117, 108, 100, 110, 39, 116, 32, 108, 101, 120, 32, 110, 117, 109, 98, 101, 114, 44, 32, 95, 32, 110, 111, 116, 32, 97, 108, 108, 111, 119, 101, 100, 32, 97, 102, 116, 101, 114, 32, 108, 101, 97, 100, 105, 110, 103, 32, 48]⟩
theorem nfmZ0 : Extern.FmtStop.printed? nfmZ 0 = some [] := by kernel_rfl

def NumOk (w : World) (s : ByteArray) (a : Nat) (L : LexSt) (B n : Nat) (xs : List Value) (e : Ending) (w' : World) : Prop :=
  e = .returned .nilIface ∧ ∃ k g cap M, numRun 0 (s.data.toList.drop L.bn) 0 = some k ∧ L.bn + k ≤ s.size ∧ LexAt w' a ({ L.steps k with toks := .slice (some ⟨g, 0, none⟩) (n + 1) cap, fod := .slice (some ⟨M, 0, none⟩) 0 0 } : LexSt).reset ∧
    w'.ownsRow B 47 11 (.slice (some ⟨g, 0, none⟩) (n + 1) cap) (n + 1) (xs ++ tokCells L.fod ⟨(numBuf s L.bn k).toArray⟩ ⟨#[]⟩ ⟨#[]⟩ L.src L.im L.tl L.tc (L.steps k).loc1 (L.steps k).loc2 11) ∧
    (L.steps k).bn = L.bn + k ∧ g ≠ a ∧ Kept (fun i => i = a ∨ L.toks.ownBlock = some i) w w' ∧ w.heap.size ≤ M ∧ M ≠ g ∧ w'.heap[M]? = some (.cells #[] 80 (0, 0))
def NumNo (w : World) (s : ByteArray) (a : Nat) (L : LexSt) (e : Ending) (w' : World) : Prop :=
  (∃ v, e = .returned (.iface 112 v)) ∧ numRun 0 (s.data.toList.drop L.bn) 0 = none ∧ (∃ k, LexAt w' a (L.steps k)) ∧ w.grownBy w' (some a)
def NumPost (w : World) (s : ByteArray) (a : Nat) (L : LexSt) (B n : Nat) (xs : List Value) (e : Ending) (w' : World) : Prop := NumOk w s a L B n xs e w' ∨ NumNo w s a L e w'

theorem enc_low {b : UInt8} (h : b.toNat < 128) : Lib.encodeRune (b.toNat : Int) = [b] := by
  unfold Lib.encodeRune
  rw [Lib.encodeRuneZ_one (by omega) (by omega)]
  simp

theorem NumOn.buf {s : ByteArray} {L : LexSt} {k st : Nat} {r : Int} (h : NumOn s L k st) (hr : (L.steps k).rune = r) (h95 : ¬ r = 95) : numBuf s L.bn (k + 1) = numBuf s L.bn k ++ Lib.encodeRune r := by
  have e := h.rune
  rw [hr] at e
  have hb := byte_of_get s (L.bn + k) h.in_
  rw [numBuf_next s L.bn k h.in_, if_neg (by omega)]
  rw [e, ← hb, enc_low (by rw [hb]; exact h.low)]
theorem NumOn.buf95 {s : ByteArray} {L : LexSt} {k st : Nat} (h : NumOn s L k st) (hr : (L.steps k).rune = 95) : numBuf s L.bn (k + 1) = numBuf s L.bn k := by
  have e := h.rune
  rw [hr] at e
  rw [numBuf_next s L.bn k h.in_, if_pos (by omega), List.append_nil]
theorem bel3 {w2 w3 : World} {o : Obj} (h : Below (w2.alloc o).drew.heap.size (w2.alloc o).drew w3) : Below w2.heap.size w2 w3 :=
  ((Below.refl _ w2).alloc (Nat.le_refl _) o).trans ((bel h).mono (by simp))

def curN (w : World) (a : Nat) : Nat := match w.cell? ⟨a, 10, none⟩ with | some (.int _ z) => z.toNat | _ => 0
theorem curN_at {w : World} {a : Nat} {L : LexSt} (h : LexAt w a L) : curN w a = L.bn := by
  unfold curN
  rw [h.cell 10]
  simp [LexSt.cells]
theorem grown_belowN {w w1 w2 : World} {r : Option Nat} (h : w.grownBy w1 r) (hb : Below w.heap.size w1 w2) : w.grownBy w2 r :=
  ⟨hb.os.trans h.os, hb.tape.trans h.tape, hb.output.trans h.output, Nat.le_trans h.size hb.size, fun i hi hne => (hb.block i hi).trans (h.block i hi hne)⟩

set_option maxHeartbeats 6400000 in
set_option maxRecDepth 100000 in
theorem lexNumber (F : Interp) (s : ByteArray) (a : Nat) (L : LexSt) (B n : Nat) (xs : List Value) (w : World) (h : LexAt w a L) (hi : Inv s L) (hs : s.size ≤ 1000000000) (p : Option Addr) (hp : L.src = .pointer p) (fp : Option Addr) (fn fc : Nat) (hf : L.fod = .slice fp fn fc)
    (hown : w.ownsRow B 47 11 L.toks n xs) (hne : L.toks.ownBlock ≠ some a) (hB : B ≤ w.heap.size) (hn : n ≤ 1000000000000) (hd : 48 ≤ L.rune ∧ L.rune ≤ 57) (hF : F.answers w.tape)
    (hT : Lib.Utf8Tabs 0 1 w) (ha0 : 0 ≠ a) (ha1 : 1 ≠ a) :
    Calls Tryf.prog 22 #[.pointer (some ⟨a, 0, none⟩)] w (NumPost w s a L B n xs) := by
  obtain ⟨g0, g1⟩ := tabs_lt hT
  have HT := Lib.hid hT
  have HI := Lib.hid hi
  have HO := Lib.hid hown
  have HP := Lib.hid hp
  have HFD := Lib.hid hf
  have HDD := Lib.hid hd
  have HFA := Lib.hid hF
  have hlt := h.lt
  have hAB : Below w.heap.size w (w.alloc (.cells #[.slice none 0 0, .int .i64 0, .int .i8 0] 85)) := (Below.refl _ w).alloc (Nat.le_refl _) _
  obtain ⟨W, hW⟩ : ∃ W, W = w.alloc (.cells #[.slice none 0 0, .int .i64 0, .int .i8 0] 85) := ⟨_, rfl⟩
  rw [← hW] at hAB
  have HA0 := Lib.hid (show LexAt W a L from (hAB.block a hlt).trans h)
  have HT0 := Lib.hid (tabs_below hT hAB g0 g1)
  have HB0 := Lib.hid (show Lib.IsBuffer 85 5 w.heap.size w.heap.size (Lib.byteCells (numBuf s L.bn 0)) W by rw [hW]; exact Lib.fresh_isBuffer 85 5 w)
  have hg0 : w.grownBy W (some a) := grown_of_below hAB
  clear hT h hi hown hp hf hd hF hAB
  go_enter Tryf.func22, Tryf.ntmps22
  go_wp2_with fail
  go_step3
  go_wp2_with fail
  go_step3
  go_upto_block 0 with fail
  rw [← hW]
  clear hW
  go_cut [] from 4 to 209 (fun wc => Hid (∃ k, numRun 0 (s.data.toList.drop L.bn) 0 = some k ∧ (L.steps k).bn = L.bn + k ∧ L.bn + k ≤ s.size ∧ LexAt wc a (L.steps k) ∧ w.grownBy wc (some a) ∧ Lib.IsBuffer 85 5 w.heap.size w.heap.size (Lib.byteCells (numBuf s L.bn k)) wc))
  case first =>
    go_wp2_with fail
    go_loopw [4] (fun s4 wr => ∃ k st : Nat, s4 = .int .i64 (st : Int) ∧ Hid (LexAt wr a (L.steps k)) ∧ Hid (NumTo s L k st) ∧ w.grownBy wr (some a) ∧ Hid (Lib.Utf8Tabs 0 1 wr) ∧ Hid (Lib.IsBuffer 85 5 w.heap.size w.heap.size (Lib.byteCells (numBuf s L.bn k)) wr)) (fun _ wr => s.size - curN wr a)
    case atStart => exact ⟨0, 0, rfl, HA0, Lib.hid (NumTo.zero HI.out), hg0, HT0, HB0⟩
    case round =>
      obtain ⟨k, st, rfl, HAk, HK, hgk, HTk, HBk⟩ := hrel
      have hzk := hgk.size
      have HBN := Lib.hid HK.out.bn
      have HLS := Lib.hid (HI.out.steps k).lsb
      have hfit := HK.out.fit
      have HP2 := Lib.hid ((steps_keeps L k).2.2.2.1.trans HP.out)
      have HCU := Lib.hid (curN_at HAk.out)
      go_wp2_with fail
      refine (peek_any a (L.steps k) _ HAk.out HTk.out).mono ?_
      rintro e w1 ⟨rfl, hb1⟩
      have hz1 := hb1.size
      have HA1 := Lib.hid (show LexAt w1 a (L.steps k) from (hb1.block a (by omega)).trans HAk.out)
      have HT1 := Lib.hid (tabs_below HTk.out hb1 (by omega) (by omega))
      have hg1 : w.grownBy w1 (some a) := Lib.grownBy_below hgk hb1
      have HB1 := Lib.hid (isBuffer_grown HBk.out (grown_of_below (row := none) hb1) (fun g e1 => by cases e1))
      have HF1 : Hid (F.answers w1.tape) := Lib.hid (by rw [hg1.tape]; exact HFA.out)
      have hHD : k = 0 → 48 ≤ (L.steps k).rune ∧ (L.steps k).rune ≤ 57 := fun e0 => by subst e0; exact HDD.out
      generalize hr : (L.steps k).rune = r at hHD
      have HR := Lib.hid hr
      have HD := Lib.hid hHD
      have HBW : Hid (Below wr.heap.size wr w1) := Lib.hid hb1
      clear hr hHD hb1 HAk HTk HBk
      go_upto_block 2 with fail
      go_cut [4] from 6 to 203 (fun s4 wc => ∃ st' : Nat, s4 = .int .i64 (st' : Int) ∧ Hid (numStep st r = .on st') ∧ wc = w1)
      case first =>
        have hst := HK.out.le
        have hcase : st = 0 ∨ st = 1 ∨ st = 2 ∨ st = 3 ∨ st = 4 ∨ st = 5 ∨ st = 6 ∨ st = 7 ∨ st = 8 ∨ st = 9 ∨ st = 10 := by omega
        clear hst
        rcases hcase with rfl | rfl | rfl | rfl | rfl | rfl | rfl | rfl | rfl | rfl | rfl
        · as_aux_lemma =>
            by_cases e48 : r = 48
            · subst e48
              go_wp2_with fail
              go_meet
              exact ⟨1, rfl, Lib.hid (by first | rfl | (simp only [numStep]; repeat (first | rw [if_neg (by omega)] | rw [if_pos (by omega)]))), rfl⟩
            have n48 : (r == 48) = false := beq_eq_false_iff_ne.2 e48
            obtain ⟨d0, d1⟩ := HD.out (HK.out.nz rfl)
            have d2 : 49 ≤ r := by omega
            go_wp2_with fail
            go_meet
            exact ⟨2, rfl, Lib.hid (by first | rfl | (simp only [numStep]; repeat (first | rw [if_neg (by omega)] | rw [if_pos (by omega)]))), rfl⟩
        · as_aux_lemma =>
            by_cases e46 : r = 46
            · subst e46
              go_wp2_with fail
              go_meet
              exact ⟨4, rfl, Lib.hid (by first | rfl | (simp only [numStep]; repeat (first | rw [if_neg (by omega)] | rw [if_pos (by omega)]))), rfl⟩
            have n46 : (r == 46) = false := beq_eq_false_iff_ne.2 e46
            by_cases e101 : r = 101
            · subst e101
              go_wp2_with fail
              go_meet
              exact ⟨7, rfl, Lib.hid (by first | rfl | (simp only [numStep]; repeat (first | rw [if_neg (by omega)] | rw [if_pos (by omega)]))), rfl⟩
            have n101 : (r == 101) = false := beq_eq_false_iff_ne.2 e101
            by_cases e69 : r = 69
            · subst e69
              go_wp2_with fail
              go_meet
              exact ⟨7, rfl, Lib.hid (by first | rfl | (simp only [numStep]; repeat (first | rw [if_neg (by omega)] | rw [if_pos (by omega)]))), rfl⟩
            have n69 : (r == 69) = false := beq_eq_false_iff_ne.2 e69
            by_cases e95 : r = 95
            · subst e95
              have HAX : Hid (LexAt w1.drew a (L.steps k)) := Lib.hid HA1.out
              go_wp2_with (refine FmtP.wpList_sprintf0 rfl _ _ rfl nfmZ rfl rfl nfmZ0 F (by exact HF1.out) ?_; intro tx)
              refine (location a (L.steps k) _ (by exact HAX.out) (by rw [HBN.out]; omega) HLS.out.1 HLS.out.2).mono ?_
              rintro e w3 ⟨rfl, hb3⟩
              have hbx3 : Below w1.heap.size w1 w3 := by exact bel hb3
              have HA3 := Lib.hid (show LexAt w3 a (L.steps k) from (hbx3.block a HA1.out.lt).trans HA1.out)
              have hg3 : w.grownBy w3 (some a) := Lib.grownBy_below hg1 hbx3
              clear hb3 hbx3
              go_wp2_with fail
              refine (mkErr a (L.steps k) _ (by exact HA3.out) p HP2.out _ _ _).mono ?_
              rintro e w4 ⟨⟨v4, rfl⟩, hb4⟩
              have HA4 := Lib.hid (show LexAt w4 a (L.steps k) from (hb4.block a HA3.out.lt).trans HA3.out)
              have hg4 : w.grownBy w4 (some a) := Lib.grownBy_below hg3 hb4
              clear hb4
              go_wp2_with fail
              try rw [Exit.noGoto_ret]
              go_ret
              exact .inr ⟨⟨_, rfl⟩, HK.out.fail HI.out (by rw [HR.out]; exact (by first | rfl | (simp only [numStep]; repeat (first | rw [if_neg (by omega)] | rw [if_pos (by omega)])))), ⟨k, HA4.out⟩, hg4⟩
            have n95 : (r == 95) = false := beq_eq_false_iff_ne.2 e95
            go_wp2_with fail
            go_meet
            exact Lib.hid ⟨k, HK.out.stop HI.out (by rw [HR.out]; exact (by first | rfl | (simp only [numStep]; repeat (first | rw [if_neg (by omega)] | rw [if_pos (by omega)])))), HK.out.bn, HK.out.fit, HA1.out, hg1, HB1.out⟩
        · as_aux_lemma =>
            by_cases e46 : r = 46
            · subst e46
              go_wp2_with fail
              go_meet
              exact ⟨4, rfl, Lib.hid (by first | rfl | (simp only [numStep]; repeat (first | rw [if_neg (by omega)] | rw [if_pos (by omega)]))), rfl⟩
            have n46 : (r == 46) = false := beq_eq_false_iff_ne.2 e46
            by_cases e101 : r = 101
            · subst e101
              go_wp2_with fail
              go_meet
              exact ⟨7, rfl, Lib.hid (by first | rfl | (simp only [numStep]; repeat (first | rw [if_neg (by omega)] | rw [if_pos (by omega)]))), rfl⟩
            have n101 : (r == 101) = false := beq_eq_false_iff_ne.2 e101
            by_cases e69 : r = 69
            · subst e69
              go_wp2_with fail
              go_meet
              exact ⟨7, rfl, Lib.hid (by first | rfl | (simp only [numStep]; repeat (first | rw [if_neg (by omega)] | rw [if_pos (by omega)]))), rfl⟩
            have n69 : (r == 69) = false := beq_eq_false_iff_ne.2 e69
            by_cases e95 : r = 95
            · subst e95
              go_wp2_with fail
              go_meet
              exact ⟨3, rfl, Lib.hid (by first | rfl | (simp only [numStep]; repeat (first | rw [if_neg (by omega)] | rw [if_pos (by omega)]))), rfl⟩
            have n95 : (r == 95) = false := beq_eq_false_iff_ne.2 e95
            by_cases d0 : 48 ≤ r
            · by_cases d1 : r ≤ 57
              · go_wp2_with fail
                go_meet
                exact ⟨2, rfl, Lib.hid (by first | rfl | (simp only [numStep]; repeat (first | rw [if_neg (by omega)] | rw [if_pos (by omega)]))), rfl⟩
              · have m1 : decide (r ≤ 57) = false := decide_eq_false d1
                go_wp2_with fail
                go_meet
                exact Lib.hid ⟨k, HK.out.stop HI.out (by rw [HR.out]; exact (by first | rfl | (simp only [numStep]; repeat (first | rw [if_neg (by omega)] | rw [if_pos (by omega)])))), HK.out.bn, HK.out.fit, HA1.out, hg1, HB1.out⟩
            · have m0 : decide (48 ≤ r) = false := decide_eq_false d0
              go_wp2_with fail
              go_meet
              exact Lib.hid ⟨k, HK.out.stop HI.out (by rw [HR.out]; exact (by first | rfl | (simp only [numStep]; repeat (first | rw [if_neg (by omega)] | rw [if_pos (by omega)])))), HK.out.bn, HK.out.fit, HA1.out, hg1, HB1.out⟩
        · as_aux_lemma =>
            by_cases d0 : 48 ≤ r
            · by_cases d1 : r ≤ 57
              · go_wp2_with fail
                go_meet
                exact ⟨2, rfl, Lib.hid (by first | rfl | (simp only [numStep]; repeat (first | rw [if_neg (by omega)] | rw [if_pos (by omega)]))), rfl⟩
              · have m1 : decide (r ≤ 57) = false := decide_eq_false d1
                go_wp2_with fail
                refine (quoteRune _ _).mono ?_
                rintro e w2 ⟨⟨t, rfl⟩, hb2⟩
                have hz2 := hb2.size
                have HA2 := Lib.hid (show LexAt w2 a (L.steps k) from (hb2.block a HA1.out.lt).trans HA1.out)
                have HF2 : Hid (F.answers w2.tape) := Lib.hid (by rw [hb2.tape]; exact HF1.out)
                have HAX : Hid (∀ o, LexAt (w2.alloc o) a (L.steps k)) := Lib.hid fun o => (((Below.refl w2.heap.size w2).alloc (Nat.le_refl _) o).block a HA2.out.lt).trans HA2.out
                have hg2 : w.grownBy w2 (some a) := Lib.grownBy_below hg1 hb2
                clear hb2
                go_wp2_with (refine FmtP.wpList_sprintf1 rfl _ _ rfl nfm1 w2.heap.size t rfl rfl nfm11 (by exact (cell_of_row _ _ 0 _ _ _ (heap_alloc_new w2 _)).trans rfl) F (by exact HF2.out) ?_; intro tx)
                refine (location a (L.steps k) _ (by exact HAX.out _) (by rw [HBN.out]; omega) HLS.out.1 HLS.out.2).mono ?_
                rintro e w3 ⟨rfl, hb3⟩
                have hbx3 : Below w2.heap.size w2 w3 := by exact bel3 hb3
                have HA3 := Lib.hid (show LexAt w3 a (L.steps k) from (hbx3.block a HA2.out.lt).trans HA2.out)
                have hg3 : w.grownBy w3 (some a) := Lib.grownBy_below hg2 hbx3
                clear hb3 hbx3
                go_wp2_with fail
                refine (mkErr a (L.steps k) _ (by exact HA3.out) p HP2.out _ _ _).mono ?_
                rintro e w4 ⟨⟨v4, rfl⟩, hb4⟩
                have HA4 := Lib.hid (show LexAt w4 a (L.steps k) from (hb4.block a HA3.out.lt).trans HA3.out)
                have hg4 : w.grownBy w4 (some a) := Lib.grownBy_below hg3 hb4
                clear hb4
                go_wp2_with fail
                try rw [Exit.noGoto_ret]
                go_ret
                exact .inr ⟨⟨_, rfl⟩, HK.out.fail HI.out (by rw [HR.out]; exact (by first | rfl | (simp only [numStep]; repeat (first | rw [if_neg (by omega)] | rw [if_pos (by omega)])))), ⟨k, HA4.out⟩, hg4⟩
            · have m0 : decide (48 ≤ r) = false := decide_eq_false d0
              go_wp2_with fail
              refine (quoteRune _ _).mono ?_
              rintro e w2 ⟨⟨t, rfl⟩, hb2⟩
              have hz2 := hb2.size
              have HA2 := Lib.hid (show LexAt w2 a (L.steps k) from (hb2.block a HA1.out.lt).trans HA1.out)
              have HF2 : Hid (F.answers w2.tape) := Lib.hid (by rw [hb2.tape]; exact HF1.out)
              have HAX : Hid (∀ o, LexAt (w2.alloc o) a (L.steps k)) := Lib.hid fun o => (((Below.refl w2.heap.size w2).alloc (Nat.le_refl _) o).block a HA2.out.lt).trans HA2.out
              have hg2 : w.grownBy w2 (some a) := Lib.grownBy_below hg1 hb2
              clear hb2
              go_wp2_with (refine FmtP.wpList_sprintf1 rfl _ _ rfl nfm1 w2.heap.size t rfl rfl nfm11 (by exact (cell_of_row _ _ 0 _ _ _ (heap_alloc_new w2 _)).trans rfl) F (by exact HF2.out) ?_; intro tx)
              refine (location a (L.steps k) _ (by exact HAX.out _) (by rw [HBN.out]; omega) HLS.out.1 HLS.out.2).mono ?_
              rintro e w3 ⟨rfl, hb3⟩
              have hbx3 : Below w2.heap.size w2 w3 := by exact bel3 hb3
              have HA3 := Lib.hid (show LexAt w3 a (L.steps k) from (hbx3.block a HA2.out.lt).trans HA2.out)
              have hg3 : w.grownBy w3 (some a) := Lib.grownBy_below hg2 hbx3
              clear hb3 hbx3
              go_wp2_with fail
              refine (mkErr a (L.steps k) _ (by exact HA3.out) p HP2.out _ _ _).mono ?_
              rintro e w4 ⟨⟨v4, rfl⟩, hb4⟩
              have HA4 := Lib.hid (show LexAt w4 a (L.steps k) from (hb4.block a HA3.out.lt).trans HA3.out)
              have hg4 : w.grownBy w4 (some a) := Lib.grownBy_below hg3 hb4
              clear hb4
              go_wp2_with fail
              try rw [Exit.noGoto_ret]
              go_ret
              exact .inr ⟨⟨_, rfl⟩, HK.out.fail HI.out (by rw [HR.out]; exact (by first | rfl | (simp only [numStep]; repeat (first | rw [if_neg (by omega)] | rw [if_pos (by omega)])))), ⟨k, HA4.out⟩, hg4⟩
        · as_aux_lemma =>
            by_cases d0 : 48 ≤ r
            · by_cases d1 : r ≤ 57
              · go_wp2_with fail
                go_meet
                exact ⟨5, rfl, Lib.hid (by first | rfl | (simp only [numStep]; repeat (first | rw [if_neg (by omega)] | rw [if_pos (by omega)]))), rfl⟩
              · have m1 : decide (r ≤ 57) = false := decide_eq_false d1
                go_wp2_with fail
                refine (quoteRune _ _).mono ?_
                rintro e w2 ⟨⟨t, rfl⟩, hb2⟩
                have hz2 := hb2.size
                have HA2 := Lib.hid (show LexAt w2 a (L.steps k) from (hb2.block a HA1.out.lt).trans HA1.out)
                have HF2 : Hid (F.answers w2.tape) := Lib.hid (by rw [hb2.tape]; exact HF1.out)
                have HAX : Hid (∀ o, LexAt (w2.alloc o) a (L.steps k)) := Lib.hid fun o => (((Below.refl w2.heap.size w2).alloc (Nat.le_refl _) o).block a HA2.out.lt).trans HA2.out
                have hg2 : w.grownBy w2 (some a) := Lib.grownBy_below hg1 hb2
                clear hb2
                go_wp2_with (refine FmtP.wpList_sprintf1 rfl _ _ rfl nfm2 w2.heap.size t rfl rfl nfm21 (by exact (cell_of_row _ _ 0 _ _ _ (heap_alloc_new w2 _)).trans rfl) F (by exact HF2.out) ?_; intro tx)
                refine (location a (L.steps k) _ (by exact HAX.out _) (by rw [HBN.out]; omega) HLS.out.1 HLS.out.2).mono ?_
                rintro e w3 ⟨rfl, hb3⟩
                have hbx3 : Below w2.heap.size w2 w3 := by exact bel3 hb3
                have HA3 := Lib.hid (show LexAt w3 a (L.steps k) from (hbx3.block a HA2.out.lt).trans HA2.out)
                have hg3 : w.grownBy w3 (some a) := Lib.grownBy_below hg2 hbx3
                clear hb3 hbx3
                go_wp2_with fail
                refine (mkErr a (L.steps k) _ (by exact HA3.out) p HP2.out _ _ _).mono ?_
                rintro e w4 ⟨⟨v4, rfl⟩, hb4⟩
                have HA4 := Lib.hid (show LexAt w4 a (L.steps k) from (hb4.block a HA3.out.lt).trans HA3.out)
                have hg4 : w.grownBy w4 (some a) := Lib.grownBy_below hg3 hb4
                clear hb4
                go_wp2_with fail
                try rw [Exit.noGoto_ret]
                go_ret
                exact .inr ⟨⟨_, rfl⟩, HK.out.fail HI.out (by rw [HR.out]; exact (by first | rfl | (simp only [numStep]; repeat (first | rw [if_neg (by omega)] | rw [if_pos (by omega)])))), ⟨k, HA4.out⟩, hg4⟩
            · have m0 : decide (48 ≤ r) = false := decide_eq_false d0
              go_wp2_with fail
              refine (quoteRune _ _).mono ?_
              rintro e w2 ⟨⟨t, rfl⟩, hb2⟩
              have hz2 := hb2.size
              have HA2 := Lib.hid (show LexAt w2 a (L.steps k) from (hb2.block a HA1.out.lt).trans HA1.out)
              have HF2 : Hid (F.answers w2.tape) := Lib.hid (by rw [hb2.tape]; exact HF1.out)
              have HAX : Hid (∀ o, LexAt (w2.alloc o) a (L.steps k)) := Lib.hid fun o => (((Below.refl w2.heap.size w2).alloc (Nat.le_refl _) o).block a HA2.out.lt).trans HA2.out
              have hg2 : w.grownBy w2 (some a) := Lib.grownBy_below hg1 hb2
              clear hb2
              go_wp2_with (refine FmtP.wpList_sprintf1 rfl _ _ rfl nfm2 w2.heap.size t rfl rfl nfm21 (by exact (cell_of_row _ _ 0 _ _ _ (heap_alloc_new w2 _)).trans rfl) F (by exact HF2.out) ?_; intro tx)
              refine (location a (L.steps k) _ (by exact HAX.out _) (by rw [HBN.out]; omega) HLS.out.1 HLS.out.2).mono ?_
              rintro e w3 ⟨rfl, hb3⟩
              have hbx3 : Below w2.heap.size w2 w3 := by exact bel3 hb3
              have HA3 := Lib.hid (show LexAt w3 a (L.steps k) from (hbx3.block a HA2.out.lt).trans HA2.out)
              have hg3 : w.grownBy w3 (some a) := Lib.grownBy_below hg2 hbx3
              clear hb3 hbx3
              go_wp2_with fail
              refine (mkErr a (L.steps k) _ (by exact HA3.out) p HP2.out _ _ _).mono ?_
              rintro e w4 ⟨⟨v4, rfl⟩, hb4⟩
              have HA4 := Lib.hid (show LexAt w4 a (L.steps k) from (hb4.block a HA3.out.lt).trans HA3.out)
              have hg4 : w.grownBy w4 (some a) := Lib.grownBy_below hg3 hb4
              clear hb4
              go_wp2_with fail
              try rw [Exit.noGoto_ret]
              go_ret
              exact .inr ⟨⟨_, rfl⟩, HK.out.fail HI.out (by rw [HR.out]; exact (by first | rfl | (simp only [numStep]; repeat (first | rw [if_neg (by omega)] | rw [if_pos (by omega)])))), ⟨k, HA4.out⟩, hg4⟩
        · as_aux_lemma =>
            by_cases e101 : r = 101
            · subst e101
              go_wp2_with fail
              go_meet
              exact ⟨7, rfl, Lib.hid (by first | rfl | (simp only [numStep]; repeat (first | rw [if_neg (by omega)] | rw [if_pos (by omega)]))), rfl⟩
            have n101 : (r == 101) = false := beq_eq_false_iff_ne.2 e101
            by_cases e69 : r = 69
            · subst e69
              go_wp2_with fail
              go_meet
              exact ⟨7, rfl, Lib.hid (by first | rfl | (simp only [numStep]; repeat (first | rw [if_neg (by omega)] | rw [if_pos (by omega)]))), rfl⟩
            have n69 : (r == 69) = false := beq_eq_false_iff_ne.2 e69
            by_cases e95 : r = 95
            · subst e95
              go_wp2_with fail
              go_meet
              exact ⟨6, rfl, Lib.hid (by first | rfl | (simp only [numStep]; repeat (first | rw [if_neg (by omega)] | rw [if_pos (by omega)]))), rfl⟩
            have n95 : (r == 95) = false := beq_eq_false_iff_ne.2 e95
            by_cases d0 : 48 ≤ r
            · by_cases d1 : r ≤ 57
              · go_wp2_with fail
                go_meet
                exact ⟨5, rfl, Lib.hid (by first | rfl | (simp only [numStep]; repeat (first | rw [if_neg (by omega)] | rw [if_pos (by omega)]))), rfl⟩
              · have m1 : decide (r ≤ 57) = false := decide_eq_false d1
                go_wp2_with fail
                go_meet
                exact Lib.hid ⟨k, HK.out.stop HI.out (by rw [HR.out]; exact (by first | rfl | (simp only [numStep]; repeat (first | rw [if_neg (by omega)] | rw [if_pos (by omega)])))), HK.out.bn, HK.out.fit, HA1.out, hg1, HB1.out⟩
            · have m0 : decide (48 ≤ r) = false := decide_eq_false d0
              go_wp2_with fail
              go_meet
              exact Lib.hid ⟨k, HK.out.stop HI.out (by rw [HR.out]; exact (by first | rfl | (simp only [numStep]; repeat (first | rw [if_neg (by omega)] | rw [if_pos (by omega)])))), HK.out.bn, HK.out.fit, HA1.out, hg1, HB1.out⟩
        · as_aux_lemma =>
            by_cases d0 : 48 ≤ r
            · by_cases d1 : r ≤ 57
              · go_wp2_with fail
                go_meet
                exact ⟨5, rfl, Lib.hid (by first | rfl | (simp only [numStep]; repeat (first | rw [if_neg (by omega)] | rw [if_pos (by omega)]))), rfl⟩
              · have m1 : decide (r ≤ 57) = false := decide_eq_false d1
                go_wp2_with fail
                refine (quoteRune _ _).mono ?_
                rintro e w2 ⟨⟨t, rfl⟩, hb2⟩
                have hz2 := hb2.size
                have HA2 := Lib.hid (show LexAt w2 a (L.steps k) from (hb2.block a HA1.out.lt).trans HA1.out)
                have HF2 : Hid (F.answers w2.tape) := Lib.hid (by rw [hb2.tape]; exact HF1.out)
                have HAX : Hid (∀ o, LexAt (w2.alloc o) a (L.steps k)) := Lib.hid fun o => (((Below.refl w2.heap.size w2).alloc (Nat.le_refl _) o).block a HA2.out.lt).trans HA2.out
                have hg2 : w.grownBy w2 (some a) := Lib.grownBy_below hg1 hb2
                clear hb2
                go_wp2_with (refine FmtP.wpList_sprintf1 rfl _ _ rfl nfm1 w2.heap.size t rfl rfl nfm11 (by exact (cell_of_row _ _ 0 _ _ _ (heap_alloc_new w2 _)).trans rfl) F (by exact HF2.out) ?_; intro tx)
                refine (location a (L.steps k) _ (by exact HAX.out _) (by rw [HBN.out]; omega) HLS.out.1 HLS.out.2).mono ?_
                rintro e w3 ⟨rfl, hb3⟩
                have hbx3 : Below w2.heap.size w2 w3 := by exact bel3 hb3
                have HA3 := Lib.hid (show LexAt w3 a (L.steps k) from (hbx3.block a HA2.out.lt).trans HA2.out)
                have hg3 : w.grownBy w3 (some a) := Lib.grownBy_below hg2 hbx3
                clear hb3 hbx3
                go_wp2_with fail
                refine (mkErr a (L.steps k) _ (by exact HA3.out) p HP2.out _ _ _).mono ?_
                rintro e w4 ⟨⟨v4, rfl⟩, hb4⟩
                have HA4 := Lib.hid (show LexAt w4 a (L.steps k) from (hb4.block a HA3.out.lt).trans HA3.out)
                have hg4 : w.grownBy w4 (some a) := Lib.grownBy_below hg3 hb4
                clear hb4
                go_wp2_with fail
                try rw [Exit.noGoto_ret]
                go_ret
                exact .inr ⟨⟨_, rfl⟩, HK.out.fail HI.out (by rw [HR.out]; exact (by first | rfl | (simp only [numStep]; repeat (first | rw [if_neg (by omega)] | rw [if_pos (by omega)])))), ⟨k, HA4.out⟩, hg4⟩
            · have m0 : decide (48 ≤ r) = false := decide_eq_false d0
              go_wp2_with fail
              refine (quoteRune _ _).mono ?_
              rintro e w2 ⟨⟨t, rfl⟩, hb2⟩
              have hz2 := hb2.size
              have HA2 := Lib.hid (show LexAt w2 a (L.steps k) from (hb2.block a HA1.out.lt).trans HA1.out)
              have HF2 : Hid (F.answers w2.tape) := Lib.hid (by rw [hb2.tape]; exact HF1.out)
              have HAX : Hid (∀ o, LexAt (w2.alloc o) a (L.steps k)) := Lib.hid fun o => (((Below.refl w2.heap.size w2).alloc (Nat.le_refl _) o).block a HA2.out.lt).trans HA2.out
              have hg2 : w.grownBy w2 (some a) := Lib.grownBy_below hg1 hb2
              clear hb2
              go_wp2_with (refine FmtP.wpList_sprintf1 rfl _ _ rfl nfm1 w2.heap.size t rfl rfl nfm11 (by exact (cell_of_row _ _ 0 _ _ _ (heap_alloc_new w2 _)).trans rfl) F (by exact HF2.out) ?_; intro tx)
              refine (location a (L.steps k) _ (by exact HAX.out _) (by rw [HBN.out]; omega) HLS.out.1 HLS.out.2).mono ?_
              rintro e w3 ⟨rfl, hb3⟩
              have hbx3 : Below w2.heap.size w2 w3 := by exact bel3 hb3
              have HA3 := Lib.hid (show LexAt w3 a (L.steps k) from (hbx3.block a HA2.out.lt).trans HA2.out)
              have hg3 : w.grownBy w3 (some a) := Lib.grownBy_below hg2 hbx3
              clear hb3 hbx3
              go_wp2_with fail
              refine (mkErr a (L.steps k) _ (by exact HA3.out) p HP2.out _ _ _).mono ?_
              rintro e w4 ⟨⟨v4, rfl⟩, hb4⟩
              have HA4 := Lib.hid (show LexAt w4 a (L.steps k) from (hb4.block a HA3.out.lt).trans HA3.out)
              have hg4 : w.grownBy w4 (some a) := Lib.grownBy_below hg3 hb4
              clear hb4
              go_wp2_with fail
              try rw [Exit.noGoto_ret]
              go_ret
              exact .inr ⟨⟨_, rfl⟩, HK.out.fail HI.out (by rw [HR.out]; exact (by first | rfl | (simp only [numStep]; repeat (first | rw [if_neg (by omega)] | rw [if_pos (by omega)])))), ⟨k, HA4.out⟩, hg4⟩
        · as_aux_lemma =>
            by_cases e43 : r = 43
            · subst e43
              go_wp2_with fail
              go_meet
              exact ⟨8, rfl, Lib.hid (by first | rfl | (simp only [numStep]; repeat (first | rw [if_neg (by omega)] | rw [if_pos (by omega)]))), rfl⟩
            have n43 : (r == 43) = false := beq_eq_false_iff_ne.2 e43
            by_cases e45 : r = 45
            · subst e45
              go_wp2_with fail
              go_meet
              exact ⟨8, rfl, Lib.hid (by first | rfl | (simp only [numStep]; repeat (first | rw [if_neg (by omega)] | rw [if_pos (by omega)]))), rfl⟩
            have n45 : (r == 45) = false := beq_eq_false_iff_ne.2 e45
            by_cases d0 : 48 ≤ r
            · by_cases d1 : r ≤ 57
              · go_wp2_with fail
                go_meet
                exact ⟨9, rfl, Lib.hid (by first | rfl | (simp only [numStep]; repeat (first | rw [if_neg (by omega)] | rw [if_pos (by omega)]))), rfl⟩
              · have m1 : decide (r ≤ 57) = false := decide_eq_false d1
                go_wp2_with fail
                refine (quoteRune _ _).mono ?_
                rintro e w2 ⟨⟨t, rfl⟩, hb2⟩
                have hz2 := hb2.size
                have HA2 := Lib.hid (show LexAt w2 a (L.steps k) from (hb2.block a HA1.out.lt).trans HA1.out)
                have HF2 : Hid (F.answers w2.tape) := Lib.hid (by rw [hb2.tape]; exact HF1.out)
                have HAX : Hid (∀ o, LexAt (w2.alloc o) a (L.steps k)) := Lib.hid fun o => (((Below.refl w2.heap.size w2).alloc (Nat.le_refl _) o).block a HA2.out.lt).trans HA2.out
                have hg2 : w.grownBy w2 (some a) := Lib.grownBy_below hg1 hb2
                clear hb2
                go_wp2_with (refine FmtP.wpList_sprintf1 rfl _ _ rfl nfm0 w2.heap.size t rfl rfl nfm01 (by exact (cell_of_row _ _ 0 _ _ _ (heap_alloc_new w2 _)).trans rfl) F (by exact HF2.out) ?_; intro tx)
                refine (location a (L.steps k) _ (by exact HAX.out _) (by rw [HBN.out]; omega) HLS.out.1 HLS.out.2).mono ?_
                rintro e w3 ⟨rfl, hb3⟩
                have hbx3 : Below w2.heap.size w2 w3 := by exact bel3 hb3
                have HA3 := Lib.hid (show LexAt w3 a (L.steps k) from (hbx3.block a HA2.out.lt).trans HA2.out)
                have hg3 : w.grownBy w3 (some a) := Lib.grownBy_below hg2 hbx3
                clear hb3 hbx3
                go_wp2_with fail
                refine (mkErr a (L.steps k) _ (by exact HA3.out) p HP2.out _ _ _).mono ?_
                rintro e w4 ⟨⟨v4, rfl⟩, hb4⟩
                have HA4 := Lib.hid (show LexAt w4 a (L.steps k) from (hb4.block a HA3.out.lt).trans HA3.out)
                have hg4 : w.grownBy w4 (some a) := Lib.grownBy_below hg3 hb4
                clear hb4
                go_wp2_with fail
                try rw [Exit.noGoto_ret]
                go_ret
                exact .inr ⟨⟨_, rfl⟩, HK.out.fail HI.out (by rw [HR.out]; exact (by first | rfl | (simp only [numStep]; repeat (first | rw [if_neg (by omega)] | rw [if_pos (by omega)])))), ⟨k, HA4.out⟩, hg4⟩
            · have m0 : decide (48 ≤ r) = false := decide_eq_false d0
              go_wp2_with fail
              refine (quoteRune _ _).mono ?_
              rintro e w2 ⟨⟨t, rfl⟩, hb2⟩
              have hz2 := hb2.size
              have HA2 := Lib.hid (show LexAt w2 a (L.steps k) from (hb2.block a HA1.out.lt).trans HA1.out)
              have HF2 : Hid (F.answers w2.tape) := Lib.hid (by rw [hb2.tape]; exact HF1.out)
              have HAX : Hid (∀ o, LexAt (w2.alloc o) a (L.steps k)) := Lib.hid fun o => (((Below.refl w2.heap.size w2).alloc (Nat.le_refl _) o).block a HA2.out.lt).trans HA2.out
              have hg2 : w.grownBy w2 (some a) := Lib.grownBy_below hg1 hb2
              clear hb2
              go_wp2_with (refine FmtP.wpList_sprintf1 rfl _ _ rfl nfm0 w2.heap.size t rfl rfl nfm01 (by exact (cell_of_row _ _ 0 _ _ _ (heap_alloc_new w2 _)).trans rfl) F (by exact HF2.out) ?_; intro tx)
              refine (location a (L.steps k) _ (by exact HAX.out _) (by rw [HBN.out]; omega) HLS.out.1 HLS.out.2).mono ?_
              rintro e w3 ⟨rfl, hb3⟩
              have hbx3 : Below w2.heap.size w2 w3 := by exact bel3 hb3
              have HA3 := Lib.hid (show LexAt w3 a (L.steps k) from (hbx3.block a HA2.out.lt).trans HA2.out)
              have hg3 : w.grownBy w3 (some a) := Lib.grownBy_below hg2 hbx3
              clear hb3 hbx3
              go_wp2_with fail
              refine (mkErr a (L.steps k) _ (by exact HA3.out) p HP2.out _ _ _).mono ?_
              rintro e w4 ⟨⟨v4, rfl⟩, hb4⟩
              have HA4 := Lib.hid (show LexAt w4 a (L.steps k) from (hb4.block a HA3.out.lt).trans HA3.out)
              have hg4 : w.grownBy w4 (some a) := Lib.grownBy_below hg3 hb4
              clear hb4
              go_wp2_with fail
              try rw [Exit.noGoto_ret]
              go_ret
              exact .inr ⟨⟨_, rfl⟩, HK.out.fail HI.out (by rw [HR.out]; exact (by first | rfl | (simp only [numStep]; repeat (first | rw [if_neg (by omega)] | rw [if_pos (by omega)])))), ⟨k, HA4.out⟩, hg4⟩
        · as_aux_lemma =>
            by_cases d0 : 48 ≤ r
            · by_cases d1 : r ≤ 57
              · go_wp2_with fail
                go_meet
                exact ⟨9, rfl, Lib.hid (by first | rfl | (simp only [numStep]; repeat (first | rw [if_neg (by omega)] | rw [if_pos (by omega)]))), rfl⟩
              · have m1 : decide (r ≤ 57) = false := decide_eq_false d1
                go_wp2_with fail
                refine (quoteRune _ _).mono ?_
                rintro e w2 ⟨⟨t, rfl⟩, hb2⟩
                have hz2 := hb2.size
                have HA2 := Lib.hid (show LexAt w2 a (L.steps k) from (hb2.block a HA1.out.lt).trans HA1.out)
                have HF2 : Hid (F.answers w2.tape) := Lib.hid (by rw [hb2.tape]; exact HF1.out)
                have HAX : Hid (∀ o, LexAt (w2.alloc o) a (L.steps k)) := Lib.hid fun o => (((Below.refl w2.heap.size w2).alloc (Nat.le_refl _) o).block a HA2.out.lt).trans HA2.out
                have hg2 : w.grownBy w2 (some a) := Lib.grownBy_below hg1 hb2
                clear hb2
                go_wp2_with (refine FmtP.wpList_sprintf1 rfl _ _ rfl nfm3 w2.heap.size t rfl rfl nfm31 (by exact (cell_of_row _ _ 0 _ _ _ (heap_alloc_new w2 _)).trans rfl) F (by exact HF2.out) ?_; intro tx)
                refine (location a (L.steps k) _ (by exact HAX.out _) (by rw [HBN.out]; omega) HLS.out.1 HLS.out.2).mono ?_
                rintro e w3 ⟨rfl, hb3⟩
                have hbx3 : Below w2.heap.size w2 w3 := by exact bel3 hb3
                have HA3 := Lib.hid (show LexAt w3 a (L.steps k) from (hbx3.block a HA2.out.lt).trans HA2.out)
                have hg3 : w.grownBy w3 (some a) := Lib.grownBy_below hg2 hbx3
                clear hb3 hbx3
                go_wp2_with fail
                refine (mkErr a (L.steps k) _ (by exact HA3.out) p HP2.out _ _ _).mono ?_
                rintro e w4 ⟨⟨v4, rfl⟩, hb4⟩
                have HA4 := Lib.hid (show LexAt w4 a (L.steps k) from (hb4.block a HA3.out.lt).trans HA3.out)
                have hg4 : w.grownBy w4 (some a) := Lib.grownBy_below hg3 hb4
                clear hb4
                go_wp2_with fail
                try rw [Exit.noGoto_ret]
                go_ret
                exact .inr ⟨⟨_, rfl⟩, HK.out.fail HI.out (by rw [HR.out]; exact (by first | rfl | (simp only [numStep]; repeat (first | rw [if_neg (by omega)] | rw [if_pos (by omega)])))), ⟨k, HA4.out⟩, hg4⟩
            · have m0 : decide (48 ≤ r) = false := decide_eq_false d0
              go_wp2_with fail
              refine (quoteRune _ _).mono ?_
              rintro e w2 ⟨⟨t, rfl⟩, hb2⟩
              have hz2 := hb2.size
              have HA2 := Lib.hid (show LexAt w2 a (L.steps k) from (hb2.block a HA1.out.lt).trans HA1.out)
              have HF2 : Hid (F.answers w2.tape) := Lib.hid (by rw [hb2.tape]; exact HF1.out)
              have HAX : Hid (∀ o, LexAt (w2.alloc o) a (L.steps k)) := Lib.hid fun o => (((Below.refl w2.heap.size w2).alloc (Nat.le_refl _) o).block a HA2.out.lt).trans HA2.out
              have hg2 : w.grownBy w2 (some a) := Lib.grownBy_below hg1 hb2
              clear hb2
              go_wp2_with (refine FmtP.wpList_sprintf1 rfl _ _ rfl nfm3 w2.heap.size t rfl rfl nfm31 (by exact (cell_of_row _ _ 0 _ _ _ (heap_alloc_new w2 _)).trans rfl) F (by exact HF2.out) ?_; intro tx)
              refine (location a (L.steps k) _ (by exact HAX.out _) (by rw [HBN.out]; omega) HLS.out.1 HLS.out.2).mono ?_
              rintro e w3 ⟨rfl, hb3⟩
              have hbx3 : Below w2.heap.size w2 w3 := by exact bel3 hb3
              have HA3 := Lib.hid (show LexAt w3 a (L.steps k) from (hbx3.block a HA2.out.lt).trans HA2.out)
              have hg3 : w.grownBy w3 (some a) := Lib.grownBy_below hg2 hbx3
              clear hb3 hbx3
              go_wp2_with fail
              refine (mkErr a (L.steps k) _ (by exact HA3.out) p HP2.out _ _ _).mono ?_
              rintro e w4 ⟨⟨v4, rfl⟩, hb4⟩
              have HA4 := Lib.hid (show LexAt w4 a (L.steps k) from (hb4.block a HA3.out.lt).trans HA3.out)
              have hg4 : w.grownBy w4 (some a) := Lib.grownBy_below hg3 hb4
              clear hb4
              go_wp2_with fail
              try rw [Exit.noGoto_ret]
              go_ret
              exact .inr ⟨⟨_, rfl⟩, HK.out.fail HI.out (by rw [HR.out]; exact (by first | rfl | (simp only [numStep]; repeat (first | rw [if_neg (by omega)] | rw [if_pos (by omega)])))), ⟨k, HA4.out⟩, hg4⟩
        · as_aux_lemma =>
            by_cases e95 : r = 95
            · subst e95
              go_wp2_with fail
              go_meet
              exact ⟨10, rfl, Lib.hid (by first | rfl | (simp only [numStep]; repeat (first | rw [if_neg (by omega)] | rw [if_pos (by omega)]))), rfl⟩
            have n95 : (r == 95) = false := beq_eq_false_iff_ne.2 e95
            by_cases d0 : 48 ≤ r
            · by_cases d1 : r ≤ 57
              · go_wp2_with fail
                go_meet
                exact ⟨9, rfl, Lib.hid (by first | rfl | (simp only [numStep]; repeat (first | rw [if_neg (by omega)] | rw [if_pos (by omega)]))), rfl⟩
              · have m1 : decide (r ≤ 57) = false := decide_eq_false d1
                go_wp2_with fail
                go_meet
                exact Lib.hid ⟨k, HK.out.stop HI.out (by rw [HR.out]; exact (by first | rfl | (simp only [numStep]; repeat (first | rw [if_neg (by omega)] | rw [if_pos (by omega)])))), HK.out.bn, HK.out.fit, HA1.out, hg1, HB1.out⟩
            · have m0 : decide (48 ≤ r) = false := decide_eq_false d0
              go_wp2_with fail
              go_meet
              exact Lib.hid ⟨k, HK.out.stop HI.out (by rw [HR.out]; exact (by first | rfl | (simp only [numStep]; repeat (first | rw [if_neg (by omega)] | rw [if_pos (by omega)])))), HK.out.bn, HK.out.fit, HA1.out, hg1, HB1.out⟩
        · as_aux_lemma =>
            by_cases d0 : 48 ≤ r
            · by_cases d1 : r ≤ 57
              · go_wp2_with fail
                go_meet
                exact ⟨9, rfl, Lib.hid (by first | rfl | (simp only [numStep]; repeat (first | rw [if_neg (by omega)] | rw [if_pos (by omega)]))), rfl⟩
              · have m1 : decide (r ≤ 57) = false := decide_eq_false d1
                go_wp2_with fail
                refine (quoteRune _ _).mono ?_
                rintro e w2 ⟨⟨t, rfl⟩, hb2⟩
                have hz2 := hb2.size
                have HA2 := Lib.hid (show LexAt w2 a (L.steps k) from (hb2.block a HA1.out.lt).trans HA1.out)
                have HF2 : Hid (F.answers w2.tape) := Lib.hid (by rw [hb2.tape]; exact HF1.out)
                have HAX : Hid (∀ o, LexAt (w2.alloc o) a (L.steps k)) := Lib.hid fun o => (((Below.refl w2.heap.size w2).alloc (Nat.le_refl _) o).block a HA2.out.lt).trans HA2.out
                have hg2 : w.grownBy w2 (some a) := Lib.grownBy_below hg1 hb2
                clear hb2
                go_wp2_with (refine FmtP.wpList_sprintf1 rfl _ _ rfl nfm1 w2.heap.size t rfl rfl nfm11 (by exact (cell_of_row _ _ 0 _ _ _ (heap_alloc_new w2 _)).trans rfl) F (by exact HF2.out) ?_; intro tx)
                refine (location a (L.steps k) _ (by exact HAX.out _) (by rw [HBN.out]; omega) HLS.out.1 HLS.out.2).mono ?_
                rintro e w3 ⟨rfl, hb3⟩
                have hbx3 : Below w2.heap.size w2 w3 := by exact bel3 hb3
                have HA3 := Lib.hid (show LexAt w3 a (L.steps k) from (hbx3.block a HA2.out.lt).trans HA2.out)
                have hg3 : w.grownBy w3 (some a) := Lib.grownBy_below hg2 hbx3
                clear hb3 hbx3
                go_wp2_with fail
                refine (mkErr a (L.steps k) _ (by exact HA3.out) p HP2.out _ _ _).mono ?_
                rintro e w4 ⟨⟨v4, rfl⟩, hb4⟩
                have HA4 := Lib.hid (show LexAt w4 a (L.steps k) from (hb4.block a HA3.out.lt).trans HA3.out)
                have hg4 : w.grownBy w4 (some a) := Lib.grownBy_below hg3 hb4
                clear hb4
                go_wp2_with fail
                try rw [Exit.noGoto_ret]
                go_ret
                exact .inr ⟨⟨_, rfl⟩, HK.out.fail HI.out (by rw [HR.out]; exact (by first | rfl | (simp only [numStep]; repeat (first | rw [if_neg (by omega)] | rw [if_pos (by omega)])))), ⟨k, HA4.out⟩, hg4⟩
            · have m0 : decide (48 ≤ r) = false := decide_eq_false d0
              go_wp2_with fail
              refine (quoteRune _ _).mono ?_
              rintro e w2 ⟨⟨t, rfl⟩, hb2⟩
              have hz2 := hb2.size
              have HA2 := Lib.hid (show LexAt w2 a (L.steps k) from (hb2.block a HA1.out.lt).trans HA1.out)
              have HF2 : Hid (F.answers w2.tape) := Lib.hid (by rw [hb2.tape]; exact HF1.out)
              have HAX : Hid (∀ o, LexAt (w2.alloc o) a (L.steps k)) := Lib.hid fun o => (((Below.refl w2.heap.size w2).alloc (Nat.le_refl _) o).block a HA2.out.lt).trans HA2.out
              have hg2 : w.grownBy w2 (some a) := Lib.grownBy_below hg1 hb2
              clear hb2
              go_wp2_with (refine FmtP.wpList_sprintf1 rfl _ _ rfl nfm1 w2.heap.size t rfl rfl nfm11 (by exact (cell_of_row _ _ 0 _ _ _ (heap_alloc_new w2 _)).trans rfl) F (by exact HF2.out) ?_; intro tx)
              refine (location a (L.steps k) _ (by exact HAX.out _) (by rw [HBN.out]; omega) HLS.out.1 HLS.out.2).mono ?_
              rintro e w3 ⟨rfl, hb3⟩
              have hbx3 : Below w2.heap.size w2 w3 := by exact bel3 hb3
              have HA3 := Lib.hid (show LexAt w3 a (L.steps k) from (hbx3.block a HA2.out.lt).trans HA2.out)
              have hg3 : w.grownBy w3 (some a) := Lib.grownBy_below hg2 hbx3
              clear hb3 hbx3
              go_wp2_with fail
              refine (mkErr a (L.steps k) _ (by exact HA3.out) p HP2.out _ _ _).mono ?_
              rintro e w4 ⟨⟨v4, rfl⟩, hb4⟩
              have HA4 := Lib.hid (show LexAt w4 a (L.steps k) from (hb4.block a HA3.out.lt).trans HA3.out)
              have hg4 : w.grownBy w4 (some a) := Lib.grownBy_below hg3 hb4
              clear hb4
              go_wp2_with fail
              try rw [Exit.noGoto_ret]
              go_ret
              exact .inr ⟨⟨_, rfl⟩, HK.out.fail HI.out (by rw [HR.out]; exact (by first | rfl | (simp only [numStep]; repeat (first | rw [if_neg (by omega)] | rw [if_pos (by omega)])))), ⟨k, HA4.out⟩, hg4⟩
      case rest =>
        obtain ⟨st', rfl, hst, hwc⟩ := hcut
        have HON := Lib.hid (HK.out.on HI.out (by rw [HR.out]; exact hst.out))
        have hin := HON.out.in_
        have HA1 := Lib.hid (show LexAt wc a (L.steps k) by rw [hwc]; exact HA1.out)
        have HT1 := Lib.hid (show Lib.Utf8Tabs 0 1 wc by rw [hwc]; exact HT1.out)
        have HB1 := Lib.hid (show Lib.IsBuffer 85 5 w.heap.size w.heap.size (Lib.byteCells (numBuf s L.bn k)) wc by rw [hwc]; exact HB1.out)
        have hg1 : w.grownBy wc (some a) := by rw [hwc]; exact hg1
        have hz1 : wr.heap.size ≤ wc.heap.size := by rw [hwc]; exact hz1
        have hr0 : 0 ≤ r ∧ r < 128 := ⟨(numStep_low hst.out).1, (numStep_low hst.out).2.1⟩
        obtain ⟨r0, r1⟩ := hr0
        have HST : Hid (L.steps (k + 1) = (L.steps k).step) := Lib.hid rfl
        have hnb := numBuf_le s L.bn k
        clear hst hwc
        by_cases h95 : r = 95
        · have HNB := Lib.hid (HON.out.buf95 (by rw [HR.out]; exact h95))
          have n95 : (r != 95) = false := by rw [h95]; rfl
          clear h95
          go_wp2_with fail
          refine (next_any a (L.steps k) _ HA1.out (by rw [(HI.out.steps k).inp]; omega) ((HI.out.steps k).lnb (by omega)).1 ((HI.out.steps k).lnb (by omega)).2 HT1.out).mono ?_
          rintro e w3 ⟨rfl, ha3, hg3⟩
          have HA3 := Lib.hid ha3
          have HT3 := Lib.hid (tabs_kept HT1.out hg3 (by omega) (by omega) ha0 ha1)
          have HB3 := Lib.hid (isBuffer_grown HB1.out hg3 (fun g e1 => by cases e1; exact ⟨_, _, 68, HA1.out, by decide, by decide⟩))
          have hg3' : w.grownBy w3 (some a) := hg1.trans hg3
          clear ha3 hg3
          go_wp2
          go_roundw
          case rel => exact ⟨k + 1, st', rfl, by rw [HST.out]; exact HA3, Lib.hid HON.out.to, hg3', HT3, by rw [HNB.out]; exact HB3⟩
          case measure =>
            rw [curN_at HA3.out, HON.out.bn, HCU.out, HBN.out]
            omega
        · have HNB := Lib.hid (HON.out.buf HR.out h95)
          have n95 : (r != 95) = true := bne_iff_ne.2 h95
          clear h95
          go_wp2_with fail
          refine (Tryf.Buffer_WriteRune_k w.heap.size w.heap.size _ r (by omega) (by omega) _ HB1.out (by omega) (Lib.byteCells_one _) (by rw [Lib.byteCells_length]; omega)).mono ?_
          rintro e w4 ⟨rfl, hB4, hb4, _⟩
          rw [← Lib.byteCells_encodeRune, ← Lib.byteCells_append, ← HNB.out] at hB4
          have hz4 := hb4.size
          have hg4 := grown_belowN hg1 hb4
          have HA4 := Lib.hid (show LexAt w4 a (L.steps k) from (hb4.block a hlt).trans HA1.out)
          have HT4 := Lib.hid (tabs_kept HT.out hg4 g0 g1 ha0 ha1)
          have HB4 := Lib.hid hB4
          clear hB4 hb4
          go_wp2_with fail
          refine (next_any a (L.steps k) _ HA4.out (by rw [(HI.out.steps k).inp]; omega) ((HI.out.steps k).lnb (by omega)).1 ((HI.out.steps k).lnb (by omega)).2 HT4.out).mono ?_
          rintro e w3 ⟨rfl, ha3, hg3⟩
          have HA3 := Lib.hid ha3
          have HT3 := Lib.hid (tabs_kept HT4.out hg3 (by omega) (by omega) ha0 ha1)
          have HB3 := Lib.hid (isBuffer_grown HB4.out hg3 (fun g e1 => by cases e1; exact ⟨_, _, 68, HA4.out, by decide, by decide⟩))
          have hg3' : w.grownBy w3 (some a) := hg4.trans hg3
          clear ha3 hg3
          go_wp2
          go_roundw
          case rel => exact ⟨k + 1, st', rfl, by rw [HST.out]; exact HA3, Lib.hid HON.out.to, hg3', HT3, HB3⟩
          case measure =>
            rw [curN_at HA3.out, HON.out.bn, HCU.out, HBN.out]
            omega
  case rest =>
    obtain ⟨k, hrun, hbn, hfit, hA, hg, hBu⟩ := hcut.out
    have HA := Lib.hid hA
    have HB := Lib.hid hBu
    have HRUN := Lib.hid hrun
    have HBN := Lib.hid hbn
    have hls := (HI.out.steps k).lsb
    have HKE := Lib.hid (steps_keeps L k)
    have HOW := Lib.hid (show wc.ownsRow B 47 11 (L.steps k).toks n xs by
      rw [HKE.out.2.2.2.2.1]
      refine ownsRow_same HO.out fun g hg' => ?_
      obtain ⟨c, fz, hc⟩ := Lib.ownsRow_kind HO.out g hg'
      exact hg.block g (Array.getElem?_eq_some_iff.1 hc).1 (fun e1 => hne (by rw [hg', ← e1])))
    have hsz := hg.size
    clear hA hBu hrun hbn hcut
    go_wp2_with fail
    refine (Tryf.Buffer_String w.heap.size w.heap.size _ _ HB.out).mono ?_
    rintro e w6 ⟨rfl, n6, rfl⟩
    go_wp2_with fail
    refine (emitFullTokenM a (L.steps k) _ _ _ _ B n xs _ (by exact HA.out) p (HKE.out.2.2.2.1.trans HP.out) fp fn fc (HKE.out.2.2.2.2.2.1.trans HFD.out) (by exact HOW.out) (by rw [HKE.out.2.2.2.2.1]; exact hne) (by show B ≤ wc.heap.size; omega) hn (by rw [HBN.out]; omega) hls.1 hls.2).mono ?_
    rintro e w7 ⟨rfl, g, cap, M, hL7, hown7, hga, hg7, hk7, hm1, hm2, hm3⟩
    have HM := Lib.hid (And.intro hm1 (And.intro hm2 hm3))
    clear hm1 hm2 hm3
    have HL7 := Lib.hid hL7
    have HO7 := Lib.hid hown7
    have HK7 := Lib.hid hk7
    clear hL7 hown7 hk7
    go_wp2_with fail
    refine (resetTokenStart a _ _ HL7.out (by show (L.steps k).bn ≤ _; rw [HBN.out]; omega) hls.1 hls.2).mono ?_
    rintro e w8 ⟨rfl, h8, hg8⟩
    have H8 := Lib.hid h8
    clear h8
    go_wp2
    try rw [Exit.noGoto_ret]
    go_ret
    refine .inl ⟨rfl, k, g, cap, M, HRUN.out, hfit, H8.out, ?_, HBN.out, hga, ?_, Nat.le_trans hsz HM.out.1, HM.out.2.1, (hg8.block M (Array.getElem?_eq_some_iff.1 HM.out.2.2).1 (fun e => by have h9 : wc.heap.size ≤ M := HM.out.1; have h8 : a = M := (Option.some.inj e).symm; omega)).trans HM.out.2.2⟩
    · have h7 := HO7.out
      obtain ⟨m1, m2, _, m4, m5, m6, m7, m8, m9⟩ := HKE.out
      rw [m2, m4, m6, m8, m9] at h7
      exact ownsRow_same h7 fun g' hg' => by
        obtain rfl : g = g' := by simpa [Value.ownBlock] using hg'
        obtain ⟨c, fz, hc⟩ := Lib.ownsRow_kind h7 g hg'
        exact hg8.block g (Array.getElem?_eq_some_iff.1 hc).1 (fun e => hga (by cases e; rfl))
    · have h1 : Kept (fun i => i = a ∨ (L.steps k).toks.ownBlock = some i) wc w7 := ⟨HK7.out.os, HK7.out.tape, HK7.out.output, HK7.out.size, HK7.out.block⟩
      rw [HKE.out.2.2.2.2.1] at h1
      exact ((Kept.ofGrown hg (fun i _ e1 => .inl (by cases e1; rfl))).trans h1).trans (Kept.ofGrown hg8 fun i _ e => .inl (by cases e; rfl))

end Go.Proofs.YthohpccmleodpaaFmt
