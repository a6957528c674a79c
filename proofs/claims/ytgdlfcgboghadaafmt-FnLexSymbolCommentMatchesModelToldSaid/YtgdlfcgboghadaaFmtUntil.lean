/-
  lexUntilNewline: the runes up to the first newline are written to a buffer, cut behind the last that is no blank; then the blanks.
-/
import Derived.Test.YtgdlfcgboghadaaFmtWs
import Derived.Test.YtgdlfcgboghadaaFmtTrunc
import Derived.Lib.BufferRune
import Derived.Lib.QuoteLoop
namespace Go.Proofs.YtgdlfcgboghadaaFmt
open Go Go.RowKit Go.Shelf

/-- What has been written behind m runes. -/
def ubuf (L : LexSt) : Nat → List UInt8
  | 0 => []
  | m + 1 => ubuf L m ++ Lib.encodeRune (L.steps m).rune
/-- How long it was behind the last rune that is no blank. -/
def ulast (L : LexSt) : Nat → Nat
  | 0 => 0
  | m + 1 => if isHws (L.steps m).rune = true then ulast L m else (ubuf L (m + 1)).length
theorem ulast_le (L : LexSt) : ∀ m, ulast L m ≤ (ubuf L m).length
  | 0 => Nat.le_refl _
  | m + 1 => by
    have := ulast_le L m
    unfold ulast
    split
    · unfold ubuf
      rw [List.length_append]
      omega
    · exact Nat.le_refl _
theorem ubuf_le (L : LexSt) : ∀ m, (ubuf L m).length ≤ 4 * m
  | 0 => Nat.le_refl _
  | m + 1 => by
    have := ubuf_le L m
    have h4 : (Lib.encodeRune (L.steps m).rune).length ≤ 4 := by
      unfold Lib.encodeRune
      rw [List.length_map]
      exact Lib.encodeRuneZ_length_le _
    unfold ubuf
    rw [List.length_append]
    omega

/-- The text goes on for m runes: none is a newline. -/
structure UTo (s : ByteArray) (L : LexSt) (m : Nat) : Prop where
  run : ∀ i, i < m → (L.steps i).bn < s.size ∧ (L.steps i).rune ≠ 10
  far : L.bn + m ≤ (L.steps m).bn
theorem UTo.zero (s : ByteArray) (L : LexSt) : UTo s L 0 := ⟨fun i hi => absurd hi (by omega), Nat.le_refl _⟩
theorem step_in {L : LexSt} (h : L.bn < L.inp.size) : L.step.bn = L.bn + (Utf8.decode L.inp L.bn).2 := by
  unfold LexSt.step
  rw [if_pos h]
  split <;> rfl
theorem rune_some {L : LexSt} (h : L.rune ≠ -1) : L.bn < L.inp.size := by
  by_cases hb : L.bn < L.inp.size
  · exact hb
  · exact absurd (LexSt.rune_end (by omega)) h
theorem UTo.next {s : ByteArray} {L : LexSt} {m : Nat} (hi : Inv s L) (h : UTo s L m) (h1 : (L.steps m).rune ≠ -1) (h2 : (L.steps m).rune ≠ 10) : UTo s L (m + 1) := by
  have e := (hi.steps m).inp
  have hb := rune_some h1
  have hs := step_in hb
  have hw := width_pos (L.steps m).inp (L.steps m).bn hb
  refine ⟨fun i hi' => ?_, ?_⟩
  · by_cases him : i < m
    · exact h.run i him
    · obtain rfl : i = m := by omega
      exact ⟨by rw [← e]; exact hb, h2⟩
  · have := h.far
    show _ ≤ (L.steps m).step.bn
    omega
theorem UTo.le {s : ByteArray} {L : LexSt} {m : Nat} (hi : Inv s L) (h : UTo s L m) : L.bn + m ≤ s.size := Nat.le_trans h.far (hi.steps m).le

theorem grown_belowB {w w1 w2 : World} {r : Option Nat} (h : w.grownBy w1 r) (hb : Below w.heap.size w1 w2) : w.grownBy w2 r :=
  ⟨hb.os.trans h.os, hb.tape.trans h.tape, hb.output.trans h.output, Nat.le_trans h.size hb.size, fun i hi hne => (hb.block i hi).trans (h.block i hi hne)⟩
theorem rune_range (L : LexSt) : -1 ≤ L.rune ∧ L.rune ≤ 2147483647 := by
  unfold LexSt.rune
  split
  · have := decode_le L.inp L.bn
    omega
  · omega

def UPost (w : World) (s : ByteArray) (a : Nat) (L : LexSt) (e : Ending) (w' : World) : Prop :=
  ∃ m k, e = .returned (.tuple #[.string ⟨((ubuf L m).take (ulast L m)).toArray⟩, .int .i64 ((nlTo s (L.steps m).bn k - 1 : Nat) : Int), .int .i64 (indTo s (L.steps m).bn k : Int)]) ∧ UTo s L m ∧ ((L.steps m).rune = -1 ∨ (L.steps m).rune = 10) ∧ WsRun s (L.steps m).bn k ∧
    ((L.steps m).steps k).bn = (L.steps m).bn + k ∧ LexAt w' a ((L.steps m).steps k) ∧ w.grownBy w' (some a)

set_option maxHeartbeats 3200000 in
set_option maxRecDepth 100000 in
theorem lexUntilNewline (s : ByteArray) (a : Nat) (L : LexSt) (w : World) (h : LexAt w a L) (hi : Inv s L) (hs : s.size ≤ 1000000000) (hT : Lib.Utf8Tabs 3 4 w) (ha0 : 3 ≠ a) (ha1 : 4 ≠ a) :
    Calls Tryf.prog 34 #[.pointer (some ⟨a, 0, none⟩)] w (UPost w s a L) := by
  obtain ⟨g0, g1⟩ := tabs_lt hT
  have HT := Lib.hid hT
  have HI := Lib.hid hi
  have hlt := h.lt
  have hAB : Below w.heap.size w (w.alloc (.cells #[.slice none 0 0, .int .i64 0, .int .i8 0] 97)) := (Below.refl _ w).alloc (Nat.le_refl _) _
  have HA0 := Lib.hid (show LexAt (w.alloc (.cells #[.slice none 0 0, .int .i64 0, .int .i8 0] 97)) a L from (hAB.block a hlt).trans h)
  have HT0 := Lib.hid (tabs_below hT hAB g0 g1)
  have HF := Lib.hid (Lib.fresh_isBuffer 97 5 w)
  clear hT h hi
  go_enter Tryf.func34, Tryf.ntmps34
  go_wp2_with fail
  refine (peek_any a L _ HA0.out HT0.out).mono ?_
  rintro e w1 ⟨rfl, hb1⟩
  have hz1 := hb1.size
  simp at hz1
  have hbw1 : Below w.heap.size w w1 := hAB.trans (hb1.mono (by simp))
  have HA1 := Lib.hid (show LexAt w1 a L from (hbw1.block a hlt).trans ((hAB.block a hlt).symm.trans HA0.out))
  have HT1 := Lib.hid (tabs_below HT.out hbw1 g0 g1)
  have HB1 := Lib.hid (isBuffer_grown HF.out (grown_of_below (row := none) hb1) (fun g e => by cases e))
  have hg1 : w.grownBy w1 (some a) := grown_of_below hbw1
  clear hb1 hAB HA0 HT0 HF hbw1
  go_wp2
  go_loopw [6, 7] (fun ln r wr => ∃ m : Nat, r = .int .i32 (L.steps m).rune ∧ ln = .int .i64 (ulast L m : Int) ∧ Hid (LexAt wr a (L.steps m)) ∧ Hid (UTo s L m) ∧ w.grownBy wr (some a) ∧ Hid (Lib.Utf8Tabs 3 4 wr) ∧ Hid (Lib.IsBuffer 97 5 w.heap.size w.heap.size (Lib.byteCells (ubuf L m)) wr)) (fun _ _ wr => s.size - cursOf wr a)
  case atStart => exact ⟨0, rfl, rfl, HA1, Lib.hid (UTo.zero s L), hg1, HT1, HB1⟩
  case round =>
    obtain ⟨m, rfl, rfl, HAk, HK, hgk, HTk, HBk⟩ := hrel
    have hzk := hgk.size
    have hinv := HI.out.steps m
    have hcu := cursOf_at HAk.out
    have hml := HK.out.le HI.out
    have hul := ulast_le L m
    have hub := ubuf_le L m
    by_cases hend : (L.steps m).rune = -1 ∨ (L.steps m).rune = 10
    · have hst : (L.steps m).rune = -1 ∨ (L.steps m).rune = 10 := hend
      have HST := Lib.hid hst
      generalize hL : L.steps m = L2 at HAk hinv hcu hend
      have HL2 := Lib.hid hL
      have HI2 := Lib.hid hinv
      clear hL hinv hcu hst
      have hgo : (L2.rune != -1) = false ∨ ((L2.rune != -1) = true ∧ (L2.rune != 10) = false) := by
        rcases hend with e1 | e1 <;> rw [e1] <;> decide
      clear hend
      have hbl : (Lib.byteCells (ubuf L m)).length = (ubuf L m).length := Lib.byteCells_length _
      have HBL := Lib.hid hbl
      have HTAKE : Hid ((Lib.byteCells (ubuf L m)).take (ulast L m) = Lib.byteCells ((ubuf L m).take (ulast L m))) := Lib.hid (by unfold Lib.byteCells; rw [List.map_take])
      clear hbl
      rcases hgo with hm1 | ⟨hm1, hm2⟩
      · go_wp2_with fail
        refine (truncate w.heap.size w.heap.size (Lib.byteCells (ubuf L m)) (ulast L m) _ HBk.out (by rw [HBL.out]; exact hul) (by rw [HBL.out]; omega)).mono ?_
        rintro e w5 ⟨rfl, hB5, hb5⟩
        rw [HTAKE.out] at hB5
        have hg5 := grown_belowB hgk hb5
        have hz5 := hb5.size
        have HA5 := Lib.hid (show LexAt w5 a L2 from (hb5.block a hlt).trans HAk.out)
        have HT5 := Lib.hid (tabs_kept HT.out hg5 g0 g1 ha0 ha1)
        have HB5 := Lib.hid hB5
        clear hB5 hb5
        go_wp2_with fail
        refine (Tryf.Buffer_String w.heap.size w.heap.size _ _ HB5.out).mono ?_
        rintro e w6 ⟨rfl, n6, rfl⟩
        go_wp2_with fail
        refine (lexWhitespace s a L2 _ (by exact HA5.out) HI2.out (by omega) (by exact HT5.out) ha0 ha1).mono ?_
        rintro e w7 ⟨k, rfl, hws, hbk, hA7, hg7⟩
        have hwl := hws.fit
        have hnl := nlTo_le s L2.bn k
        have HWS := Lib.hid hws
        have HBK := Lib.hid hbk
        have HA7 := Lib.hid hA7
        have hg8 : w.grownBy w7 (some a) := ⟨hg7.os.trans hg5.os, hg7.tape.trans hg5.tape, hg7.output.trans hg5.output, Nat.le_trans hg5.size hg7.size, fun i hi hne => (hg7.block i (Nat.lt_of_lt_of_le hi hg5.size) hne).trans (hg5.block i hi hne)⟩
        clear hws hbk hA7 hg7
        by_cases hn0 : nlTo s L2.bn k = 0
        · have hn1 : decide (0 < nlTo s L2.bn k) = false := decide_eq_false (by omega)
          have hn2 : ((nlTo s L2.bn k - 1 : Nat) : Int) = 0 := by omega
          have HN2 := Lib.hid hn2
          have hn3 : ((nlTo s L2.bn k : Nat) : Int) = 0 := by omega
          rw [hn3]
          clear hn0 hn2 hn3
          go_wp2
          go_ret3
          exact ⟨m, k, by rw [HL2.out, HN2.out]; rfl, HK.out, HST.out, by rw [HL2.out]; exact HWS.out, by rw [HL2.out]; exact HBK.out, by rw [HL2.out]; exact HA7.out, hg8⟩
        · have hn1 : 0 < nlTo s L2.bn k := by omega
          have hn2 : ((nlTo s L2.bn k - 1 : Nat) : Int) = (nlTo s L2.bn k : Int) - 1 := by omega
          have HN2 := Lib.hid hn2
          clear hn0 hn2
          go_wp2
          go_ret3
          exact ⟨m, k, by rw [HL2.out, HN2.out]; rfl, HK.out, HST.out, by rw [HL2.out]; exact HWS.out, by rw [HL2.out]; exact HBK.out, by rw [HL2.out]; exact HA7.out, hg8⟩
      · go_wp2_with fail
        refine (truncate w.heap.size w.heap.size (Lib.byteCells (ubuf L m)) (ulast L m) _ HBk.out (by rw [HBL.out]; exact hul) (by rw [HBL.out]; omega)).mono ?_
        rintro e w5 ⟨rfl, hB5, hb5⟩
        rw [HTAKE.out] at hB5
        have hg5 := grown_belowB hgk hb5
        have hz5 := hb5.size
        have HA5 := Lib.hid (show LexAt w5 a L2 from (hb5.block a hlt).trans HAk.out)
        have HT5 := Lib.hid (tabs_kept HT.out hg5 g0 g1 ha0 ha1)
        have HB5 := Lib.hid hB5
        clear hB5 hb5
        go_wp2_with fail
        refine (Tryf.Buffer_String w.heap.size w.heap.size _ _ HB5.out).mono ?_
        rintro e w6 ⟨rfl, n6, rfl⟩
        go_wp2_with fail
        refine (lexWhitespace s a L2 _ (by exact HA5.out) HI2.out (by omega) (by exact HT5.out) ha0 ha1).mono ?_
        rintro e w7 ⟨k, rfl, hws, hbk, hA7, hg7⟩
        have hwl := hws.fit
        have hnl := nlTo_le s L2.bn k
        have HWS := Lib.hid hws
        have HBK := Lib.hid hbk
        have HA7 := Lib.hid hA7
        have hg8 : w.grownBy w7 (some a) := ⟨hg7.os.trans hg5.os, hg7.tape.trans hg5.tape, hg7.output.trans hg5.output, Nat.le_trans hg5.size hg7.size, fun i hi hne => (hg7.block i (Nat.lt_of_lt_of_le hi hg5.size) hne).trans (hg5.block i hi hne)⟩
        clear hws hbk hA7 hg7
        by_cases hn0 : nlTo s L2.bn k = 0
        · have hn1 : decide (0 < nlTo s L2.bn k) = false := decide_eq_false (by omega)
          have hn2 : ((nlTo s L2.bn k - 1 : Nat) : Int) = 0 := by omega
          have HN2 := Lib.hid hn2
          have hn3 : ((nlTo s L2.bn k : Nat) : Int) = 0 := by omega
          rw [hn3]
          clear hn0 hn2 hn3
          go_wp2
          go_ret3
          exact ⟨m, k, by rw [HL2.out, HN2.out]; rfl, HK.out, HST.out, by rw [HL2.out]; exact HWS.out, by rw [HL2.out]; exact HBK.out, by rw [HL2.out]; exact HA7.out, hg8⟩
        · have hn1 : 0 < nlTo s L2.bn k := by omega
          have hn2 : ((nlTo s L2.bn k - 1 : Nat) : Int) = (nlTo s L2.bn k : Int) - 1 := by omega
          have HN2 := Lib.hid hn2
          clear hn0 hn2
          go_wp2
          go_ret3
          exact ⟨m, k, by rw [HL2.out, HN2.out]; rfl, HK.out, HST.out, by rw [HL2.out]; exact HWS.out, by rw [HL2.out]; exact HBK.out, by rw [HL2.out]; exact HA7.out, hg8⟩
    · have hm1 : ((L.steps m).rune != -1) = true := bne_iff_ne.2 (fun e1 => hend (.inl e1))
      have hm2 : ((L.steps m).rune != 10) = true := bne_iff_ne.2 (fun e1 => hend (.inr e1))
      have hnx := UTo.next HI.out HK.out (fun e1 => hend (.inl e1)) (fun e1 => hend (.inr e1))
      have HNX := Lib.hid hnx
      have hsb := step_in (rune_some (fun e1 => hend (.inl e1)))
      have hwp := width_pos _ _ (rune_some (L := L.steps m) (fun e1 => hend (.inl e1)))
      have hsz := rune_some (L := L.steps m) (fun e1 => hend (.inl e1))
      have hub1 : ubuf L (m + 1) = ubuf L m ++ Lib.encodeRune (L.steps m).rune := rfl
      have hul1 : ulast L (m + 1) = if isHws (L.steps m).rune = true then ulast L m else (ubuf L (m + 1)).length := rfl
      obtain ⟨hr0, hr1⟩ := rune_range (L.steps m)
      generalize hL : L.steps m = L2 at HAk hinv hcu hm1 hm2 hsb hwp hsz hub1 hul1 hr0 hr1
      have hstep : L.steps (m + 1) = L2.step := by show (L.steps m).step = _; rw [hL]
      have HL2 := Lib.hid hL
      have HI2 := Lib.hid hinv
      have HCU := Lib.hid hcu
      have HSB := Lib.hid hsb
      have HSTP := Lib.hid hstep
      have HUB := Lib.hid hub1
      have HUL := Lib.hid hul1
      have hsz' : L2.bn < s.size := by rw [← hinv.inp]; exact hsz
      have hwp' : 1 ≤ (Utf8.decode L2.inp L2.bn).2 := hwp
      clear hL hinv hcu hsb hnx hub1 hul1 hend hstep hsz hwp
      go_wp2_with fail
      refine (next_any a L2 _ HAk.out (by rw [HI2.out.inp]; omega) (HI2.out.lnb (by omega)).1 (HI2.out.lnb (by omega)).2 HTk.out).mono ?_
      rintro e w3 ⟨rfl, ha3, hg3⟩
      have hz3 := hg3.size
      have HA3 := Lib.hid ha3
      have HT3 := Lib.hid (tabs_kept HTk.out hg3 (by omega) (by omega) ha0 ha1)
      have HB3 := Lib.hid (isBuffer_grown HBk.out hg3 (fun g e1 => by cases e1; exact ⟨_, _, 73, HAk.out, by decide, by decide⟩))
      have hg3' : w.grownBy w3 (some a) := hgk.trans hg3
      clear ha3 hg3 HBk HTk
      go_wp2_with fail
      refine (Tryf.Buffer_WriteRune_k w.heap.size w.heap.size _ L2.rune (by omega) (by omega) _ HB3.out (by omega) (Lib.byteCells_one _) (by rw [Lib.byteCells_length]; omega)).mono ?_
      rintro e w4 ⟨rfl, hB4, hb4, _⟩
      rw [← Lib.byteCells_encodeRune, ← Lib.byteCells_append, ← HUB.out] at hB4
      have hz4 := hb4.size
      have hg4 := grown_belowB hg3' hb4
      have HA4 := Lib.hid (show LexAt w4 a L2.step from (hb4.block a hlt).trans HA3.out)
      have HT4 := Lib.hid (tabs_kept HT.out hg4 g0 g1 ha0 ha1)
      have HB4 := Lib.hid hB4
      clear hB4 hb4 hg3' HB3 HT3 HA3
      cases hhw : isHws L2.rune
      · have HHW := Lib.hid hhw
        have HUL2 : Hid (ulast L (m + 1) = (ubuf L (m + 1)).length) := Lib.hid (by rw [HUL.out, hhw]; rfl)
        clear hhw
        go_wp2_with fail
        refine (hws L2.rune _).mono ?_
        rw [HHW.out]
        rintro e w5 ⟨rfl, rfl⟩
        go_wp2_with fail
        refine (Tryf.Buffer_Len w.heap.size w.heap.size _ _ HB4.out).mono ?_
        rintro e w5 ⟨rfl, n5, rfl⟩
        rw [Lib.byteCells_length]
        go_wp2_with fail
        refine (peek_any a L2.step _ (by exact HA4.out) (by exact HT4.out)).mono ?_
        rintro e w6 ⟨rfl, hb6⟩
        have hb6' : Below w4.heap.size w4 w6 := ⟨hb6.os, hb6.tape, hb6.output, hb6.size, hb6.block⟩
        have HA6 := Lib.hid (show LexAt w6 a L2.step from (hb6'.block a (by omega)).trans HA4.out)
        have HT6 := Lib.hid (tabs_below HT4.out hb6' (by omega) (by omega))
        have hg6 : w.grownBy w6 (some a) := Lib.grownBy_below hg4 hb6'
        have HB6 := Lib.hid (isBuffer_grown HB4.out (grown_of_below (row := none) hb6') (fun g e1 => by cases e1))
        clear hb6 hb6'
        go_wp2
        go_roundw
        case rel => exact ⟨m + 1, by rw [HSTP.out], by rw [HUL2.out], by rw [HSTP.out]; exact HA6, HNX, hg6, HT6, HB6⟩
        case measure =>
          rw [cursOf_at HA6.out, HCU.out, HSB.out]
          omega
      · have HHW := Lib.hid hhw
        have HUL2 : Hid (ulast L (m + 1) = ulast L m) := Lib.hid (by rw [HUL.out, hhw]; rfl)
        clear hhw
        go_wp2_with fail
        refine (hws L2.rune _).mono ?_
        rw [HHW.out]
        rintro e w5 ⟨rfl, rfl⟩
        go_wp2_with fail
        refine (peek_any a L2.step _ (by exact HA4.out) (by exact HT4.out)).mono ?_
        rintro e w6 ⟨rfl, hb6⟩
        have hb6' : Below w4.heap.size w4 w6 := ⟨hb6.os, hb6.tape, hb6.output, hb6.size, hb6.block⟩
        have HA6 := Lib.hid (show LexAt w6 a L2.step from (hb6'.block a (by omega)).trans HA4.out)
        have HT6 := Lib.hid (tabs_below HT4.out hb6' (by omega) (by omega))
        have hg6 : w.grownBy w6 (some a) := Lib.grownBy_below hg4 hb6'
        have HB6 := Lib.hid (isBuffer_grown HB4.out (grown_of_below (row := none) hb6') (fun g e1 => by cases e1))
        clear hb6 hb6'
        go_wp2
        go_roundw
        case rel => exact ⟨m + 1, by rw [HSTP.out], by rw [HUL2.out], by rw [HSTP.out]; exact HA6, HNX, hg6, HT6, HB6⟩
        case measure =>
          rw [cursOf_at HA6.out, HCU.out, HSB.out]
          omega

end Go.Proofs.YtgdlfcgboghadaaFmt
