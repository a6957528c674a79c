/-
  lexWhitespace: the longest run of blank bytes; how many newlines are in it, and the indent behind the last.
-/
import Derived.Test.YthohpccmleodpaaFmtNl
import Derived.Test.YthohpccmleodpaaFmtShims
namespace Go.Proofs.YthohpccmleodpaaFmt
open Go Go.RowKit Go.Shelf

theorem isWs_cases {r : Int} (h : isWs r = true) : r = 10 ∨ r = 32 ∨ r = 9 ∨ r = 13 := by
  unfold isWs isHws at h
  simp at h
  omega

/-- Behind p lie k blank bytes, and no more. -/
structure WsRun (s : ByteArray) (p k : Nat) : Prop where
  fit : p + k ≤ s.size
  all : ∀ j, j < k → isWs (byteAt s (p + j)) = true
  stop : p + k = s.size ∨ (p + k < s.size ∧ isWs (byteAt s (p + k)) = false)

/-- The indent behind k bytes from p. -/
def indTo (s : ByteArray) (p : Nat) : Nat → Nat
  | 0 => 0
  | k + 1 => if byteAt s (p + k) = 10 then 0 else if byteAt s (p + k) = 32 then indTo s p k + 1 else if byteAt s (p + k) = 9 then indTo s p k + 8 else indTo s p k
/-- The newlines among k bytes from p. -/
def nlTo (s : ByteArray) (p : Nat) : Nat → Nat
  | 0 => 0
  | k + 1 => nlTo s p k + if byteAt s (p + k) = 10 then 1 else 0
theorem indTo_le (s : ByteArray) (p : Nat) : ∀ k, indTo s p k ≤ 8 * k
  | 0 => Nat.le_refl _
  | k + 1 => by
    have := indTo_le s p k
    unfold indTo
    split
    · omega
    · split
      · omega
      · split <;> omega
theorem nlTo_le (s : ByteArray) (p : Nat) : ∀ k, nlTo s p k ≤ k
  | 0 => Nat.le_refl _
  | k + 1 => by
    have := nlTo_le s p k
    unfold nlTo
    split <;> omega
theorem nlTo_nlc (s : ByteArray) (p : Nat) : ∀ k, nlc s (p + k) = nlc s p + nlTo s p k
  | 0 => rfl
  | k + 1 => by
    have := nlTo_nlc s p k
    rw [show p + (k + 1) = (p + k) + 1 by omega]
    show nlc s (p + k) + (if byteAt s (p + k) = 10 then 1 else 0) = nlc s p + (nlTo s p k + if byteAt s (p + k) = 10 then 1 else 0)
    omega

/-- A blank under the cursor is one byte. -/
theorem rune_ws {L : LexSt} (h : isWs L.rune = true) : L.bn < L.inp.size ∧ ((byteAt L.inp L.bn : Nat) : Int) = L.rune ∧ L.step.bn = L.bn + 1 := by
  have hc := isWs_cases h
  by_cases hb : L.bn < L.inp.size
  · rw [LexSt.rune_in hb] at hc ⊢
    by_cases hl : byteAt L.inp L.bn < 128
    · have hd := decode_low L.inp L.bn hb hl
      refine ⟨hb, by rw [hd], ?_⟩
      unfold LexSt.step
      rw [if_pos hb, hd]
      split <;> rfl
    · have := (decode_hi L.inp L.bn hb (by omega)).1
      omega
  · rw [LexSt.rune_end (by omega)] at hc
    omega
theorem ws_not_hi {b : Nat} (h : 128 ≤ b) : isWs (b : Int) = false := by
  cases hw : isWs (b : Int)
  · rfl
  · have := isWs_cases hw
    omega
theorem rune_nows {s : ByteArray} {L : LexSt} (hi : Inv s L) (h : isWs L.rune = false) : L.bn = s.size ∨ (L.bn < s.size ∧ isWs (byteAt s L.bn) = false) := by
  have h1 := hi.inp
  have h2 := hi.le
  by_cases hb : L.bn < L.inp.size
  · rw [LexSt.rune_in hb, h1] at h
    rw [h1] at hb
    refine .inr ⟨hb, ?_⟩
    by_cases hl : byteAt s L.bn < 128
    · rw [decode_low s L.bn hb hl] at h
      exact h
    · exact ws_not_hi (by omega)
  · rw [h1] at hb
    exact .inl (by omega)

structure WsTo (s : ByteArray) (L : LexSt) (k : Nat) : Prop where
  bn : (L.steps k).bn = L.bn + k
  fit : L.bn + k ≤ s.size
  all : ∀ j, j < k → isWs (byteAt s (L.bn + j)) = true
theorem WsTo.zero {s : ByteArray} {L : LexSt} (h : Inv s L) : WsTo s L 0 := ⟨rfl, h.le, fun j hj => absurd hj (by omega)⟩
theorem WsTo.next {s : ByteArray} {L : LexSt} {k : Nat} (hi : Inv s L) (h : WsTo s L k) (hr : isWs (L.steps k).rune = true) : WsTo s L (k + 1) ∧ ((byteAt s (L.bn + k) : Nat) : Int) = (L.steps k).rune := by
  obtain ⟨h1, h2, h3⟩ := rune_ws hr
  have e := (hi.steps k).inp
  rw [e, h.bn] at h1
  rw [e, h.bn] at h2
  refine ⟨⟨by show (L.steps k).step.bn = _; rw [h3, h.bn]; omega, by omega, fun j hj => ?_⟩, h2⟩
  by_cases hjk : j < k
  · exact h.all j hjk
  · obtain rfl : j = k := by omega
    rw [h2]
    exact hr
theorem WsTo.run {s : ByteArray} {L : LexSt} {k : Nat} (hi : Inv s L) (h : WsTo s L k) (hr : isWs (L.steps k).rune = false) : WsRun s L.bn k := by
  have := rune_nows (hi.steps k) hr
  rw [h.bn] at this
  exact ⟨h.fit, h.all, this⟩

/-- The cursor, out of the lexer's own cell. -/
def cursOf (w : World) (a : Nat) : Nat := match w.cell? ⟨a, 10, none⟩ with | some (.int _ z) => z.toNat | _ => 0
theorem cursOf_at {w : World} {a : Nat} {L : LexSt} (h : LexAt w a L) : cursOf w a = L.bn := by
  unfold cursOf
  rw [h.cell 10]
  simp [LexSt.cells]

def WsPost (w : World) (s : ByteArray) (a : Nat) (L : LexSt) (e : Ending) (w' : World) : Prop :=
  ∃ k, e = .returned (.tuple #[.int .i64 (nlTo s L.bn k : Int), .int .i64 (indTo s L.bn k : Int)]) ∧ WsRun s L.bn k ∧ (L.steps k).bn = L.bn + k ∧ LexAt w' a (L.steps k) ∧ w.grownBy w' (some a)

set_option maxHeartbeats 1600000 in
set_option maxRecDepth 100000 in
theorem lexWhitespace (s : ByteArray) (a : Nat) (L : LexSt) (w : World) (h : LexAt w a L) (hi : Inv s L) (hs : s.size ≤ 1099511627775) (hT : Lib.Utf8Tabs 0 1 w) (ha0 : 0 ≠ a) (ha1 : 1 ≠ a) :
    Calls Tryf.prog 16 #[.pointer (some ⟨a, 0, none⟩)] w (WsPost w s a L) := by
  obtain ⟨g0, g1⟩ := tabs_lt hT
  have HT := Lib.hid hT
  have HA := Lib.hid h
  have HI := Lib.hid hi
  have hlt := h.lt
  clear hT h hi
  go_enter Tryf.func16, Tryf.ntmps16
  go_wp2_with fail
  refine (peek_any a L _ HA.out HT.out).mono ?_
  rintro e w1 ⟨rfl, hb1⟩
  have hz1 := hb1.size
  have HA1 := Lib.hid (show LexAt w1 a L from (hb1.block a hlt).trans HA.out)
  have HT1 := Lib.hid (tabs_below HT.out hb1 g0 g1)
  go_wp2
  go_loopw [4, 5, 6] (fun r ind nl wr => ∃ k : Nat, r = .int .i32 (L.steps k).rune ∧ ind = .int .i64 (indTo s L.bn k : Int) ∧ nl = .int .i64 (nlTo s L.bn k : Int) ∧ Hid (LexAt wr a (L.steps k)) ∧ Hid (WsTo s L k) ∧ w1.grownBy wr (some a) ∧ Hid (Lib.Utf8Tabs 0 1 wr)) (fun _ _ _ wr => s.size - cursOf wr a)
  case atStart => exact ⟨0, rfl, rfl, rfl, HA1, Lib.hid (WsTo.zero HI.out), World.grownBy.refl w1 _, HT1⟩
  case round =>
    obtain ⟨k, rfl, rfl, rfl, HAk, HK, hgk, HTk⟩ := hrel
    have hzk := hgk.size
    have hinv := HI.out.steps k
    have hbn := HK.out.bn
    have hcu := cursOf_at HAk.out
    have hfit0 := HK.out.fit
    have hil := indTo_le s L.bn k
    have hnl := nlTo_le s L.bn k
    cases hrr : isWs (L.steps k).rune
    · have hrun := WsTo.run HI.out HK.out hrr
      have HRUN := Lib.hid hrun
      generalize hL : L.steps k = L2 at HAk hinv hbn hrr hcu
      have HL2 := Lib.hid hL
      have HBN := Lib.hid hbn
      have HRR := Lib.hid hrr
      clear hL hinv hbn hrr hrun hcu
      go_wp2_with fail
      refine (ws L2.rune _).mono ?_
      rw [HRR.out]
      rintro e w2 ⟨rfl, rfl⟩
      go_wp2
      go_ret2
      have hgk2 : w.grownBy wr (some a) := ⟨hgk.os.trans hb1.os, hgk.tape.trans hb1.tape, hgk.output.trans hb1.output, Nat.le_trans hz1 hzk, fun i hi hne => (hgk.block i (by omega) hne).trans (hb1.block i hi)⟩
      exact ⟨k, rfl, HRUN.out, by rw [HL2.out]; exact HBN.out, by rw [HL2.out]; exact HAk.out, hgk2⟩
    · obtain ⟨hnx, hby⟩ := WsTo.next HI.out HK.out hrr
      have hrb := (rune_ws hrr).2.2
      have hcs := isWs_cases hrr
      have HNX := Lib.hid hnx
      have hfit := hnx.fit
      generalize hL : L.steps k = L2 at HAk hinv hbn hrr hcu hrb hby hcs
      have HL2 := Lib.hid hL
      have HI2 := Lib.hid hinv
      have HBN := Lib.hid hbn
      have HCU := Lib.hid hcu
      have HRB := Lib.hid hrb
      clear hL hinv hbn hrr hcu hnx hrb
      have hstep : L.steps (k + 1) = L2.step := by show (L.steps k).step = _; rw [HL2.out]
      have HST := Lib.hid hstep
      clear hstep
      rcases hcs with hc | hc | hc | hc
      · rw [hc] at hby
        have hbb : byteAt s (L.bn + k) = 10 := by omega
        have hi1 : indTo s L.bn (k + 1) = 0 := by rw [indTo, hbb]; rfl
        have hn1 : nlTo s L.bn (k + 1) = (nlTo s L.bn k + 1) := by rw [nlTo, hbb]; rfl
        have HI1 := Lib.hid hi1
        have HN1 := Lib.hid hn1
        have HC := Lib.hid hc
        rw [hc]
        clear hi1 hn1 hbb hby hc
        generalize indTo s L.bn k = IN at hil HI1
        generalize nlTo s L.bn k = NL at hnl HN1
        go_wp2_with fail
        refine (ws 10 _).mono ?_
        rw [show isWs 10 = true from rfl]
        rintro e w2 ⟨rfl, rfl⟩
        go_wp2_with fail
        refine (next_any a L2 _ HAk.out (by rw [HI2.out.inp]; omega) (HI2.out.lnb (by omega)).1 (HI2.out.lnb (by omega)).2 HTk.out).mono ?_
        rw [HC.out]
        rintro e w3 ⟨rfl, ha3, hg3⟩
        have hz3 := hg3.size
        have HA3 := Lib.hid ha3
        have HT3 := Lib.hid (tabs_kept HTk.out hg3 (by omega) (by omega) ha0 ha1)
        clear ha3
        go_wp2_with fail
        refine (peek_any a L2.step _ HA3.out HT3.out).mono ?_
        rintro e w4 ⟨rfl, hb4⟩
        have HA4 := Lib.hid (show LexAt w4 a L2.step from (hb4.block a HA3.out.lt).trans HA3.out)
        have HT4 := Lib.hid (tabs_below HT3.out hb4 (by omega) (by omega))
        have hg4 : w1.grownBy w4 (some a) := Lib.grownBy_below (hgk.trans hg3) hb4
        clear hb4 hg3
        go_wp2
        go_roundw
        case rel => exact ⟨k + 1, by rw [HST.out], by first | (rw [HI1.out]; done) | (rw [HI1.out]; go_num), by first | (rw [HN1.out]; done) | (rw [HN1.out]; go_num), by rw [HST.out]; exact HA4, HNX, hg4, HT4⟩
        case measure =>
          rw [cursOf_at HA4.out, HCU.out, HRB.out, HBN.out]
          omega
      · rw [hc] at hby
        have hbb : byteAt s (L.bn + k) = 32 := by omega
        have hi1 : indTo s L.bn (k + 1) = (indTo s L.bn k + 1) := by rw [indTo, hbb]; rfl
        have hn1 : nlTo s L.bn (k + 1) = (nlTo s L.bn k) := by rw [nlTo, hbb]; rfl
        have HI1 := Lib.hid hi1
        have HN1 := Lib.hid hn1
        have HC := Lib.hid hc
        rw [hc]
        clear hi1 hn1 hbb hby hc
        generalize indTo s L.bn k = IN at hil HI1
        generalize nlTo s L.bn k = NL at hnl HN1
        go_wp2_with fail
        refine (ws 32 _).mono ?_
        rw [show isWs 32 = true from rfl]
        rintro e w2 ⟨rfl, rfl⟩
        go_wp2_with fail
        refine (next_any a L2 _ HAk.out (by rw [HI2.out.inp]; omega) (HI2.out.lnb (by omega)).1 (HI2.out.lnb (by omega)).2 HTk.out).mono ?_
        rw [HC.out]
        rintro e w3 ⟨rfl, ha3, hg3⟩
        have hz3 := hg3.size
        have HA3 := Lib.hid ha3
        have HT3 := Lib.hid (tabs_kept HTk.out hg3 (by omega) (by omega) ha0 ha1)
        clear ha3
        go_wp2_with fail
        refine (peek_any a L2.step _ HA3.out HT3.out).mono ?_
        rintro e w4 ⟨rfl, hb4⟩
        have HA4 := Lib.hid (show LexAt w4 a L2.step from (hb4.block a HA3.out.lt).trans HA3.out)
        have HT4 := Lib.hid (tabs_below HT3.out hb4 (by omega) (by omega))
        have hg4 : w1.grownBy w4 (some a) := Lib.grownBy_below (hgk.trans hg3) hb4
        clear hb4 hg3
        go_wp2
        go_roundw
        case rel => exact ⟨k + 1, by rw [HST.out], by first | (rw [HI1.out]; done) | (rw [HI1.out]; go_num), by first | (rw [HN1.out]; done) | (rw [HN1.out]; go_num), by rw [HST.out]; exact HA4, HNX, hg4, HT4⟩
        case measure =>
          rw [cursOf_at HA4.out, HCU.out, HRB.out, HBN.out]
          omega
      · rw [hc] at hby
        have hbb : byteAt s (L.bn + k) = 9 := by omega
        have hi1 : indTo s L.bn (k + 1) = (indTo s L.bn k + 8) := by rw [indTo, hbb]; rfl
        have hn1 : nlTo s L.bn (k + 1) = (nlTo s L.bn k) := by rw [nlTo, hbb]; rfl
        have HI1 := Lib.hid hi1
        have HN1 := Lib.hid hn1
        have HC := Lib.hid hc
        rw [hc]
        clear hi1 hn1 hbb hby hc
        generalize indTo s L.bn k = IN at hil HI1
        generalize nlTo s L.bn k = NL at hnl HN1
        go_wp2_with fail
        refine (ws 9 _).mono ?_
        rw [show isWs 9 = true from rfl]
        rintro e w2 ⟨rfl, rfl⟩
        go_wp2_with fail
        refine (next_any a L2 _ HAk.out (by rw [HI2.out.inp]; omega) (HI2.out.lnb (by omega)).1 (HI2.out.lnb (by omega)).2 HTk.out).mono ?_
        rw [HC.out]
        rintro e w3 ⟨rfl, ha3, hg3⟩
        have hz3 := hg3.size
        have HA3 := Lib.hid ha3
        have HT3 := Lib.hid (tabs_kept HTk.out hg3 (by omega) (by omega) ha0 ha1)
        clear ha3
        go_wp2_with fail
        refine (peek_any a L2.step _ HA3.out HT3.out).mono ?_
        rintro e w4 ⟨rfl, hb4⟩
        have HA4 := Lib.hid (show LexAt w4 a L2.step from (hb4.block a HA3.out.lt).trans HA3.out)
        have HT4 := Lib.hid (tabs_below HT3.out hb4 (by omega) (by omega))
        have hg4 : w1.grownBy w4 (some a) := Lib.grownBy_below (hgk.trans hg3) hb4
        clear hb4 hg3
        go_wp2
        go_roundw
        case rel => exact ⟨k + 1, by rw [HST.out], by first | (rw [HI1.out]; done) | (rw [HI1.out]; go_num), by first | (rw [HN1.out]; done) | (rw [HN1.out]; go_num), by rw [HST.out]; exact HA4, HNX, hg4, HT4⟩
        case measure =>
          rw [cursOf_at HA4.out, HCU.out, HRB.out, HBN.out]
          omega
      · rw [hc] at hby
        have hbb : byteAt s (L.bn + k) = 13 := by omega
        have hi1 : indTo s L.bn (k + 1) = (indTo s L.bn k) := by rw [indTo, hbb]; rfl
        have hn1 : nlTo s L.bn (k + 1) = (nlTo s L.bn k) := by rw [nlTo, hbb]; rfl
        have HI1 := Lib.hid hi1
        have HN1 := Lib.hid hn1
        have HC := Lib.hid hc
        rw [hc]
        clear hi1 hn1 hbb hby hc
        generalize indTo s L.bn k = IN at hil HI1
        generalize nlTo s L.bn k = NL at hnl HN1
        go_wp2_with fail
        refine (ws 13 _).mono ?_
        rw [show isWs 13 = true from rfl]
        rintro e w2 ⟨rfl, rfl⟩
        go_wp2_with fail
        refine (next_any a L2 _ HAk.out (by rw [HI2.out.inp]; omega) (HI2.out.lnb (by omega)).1 (HI2.out.lnb (by omega)).2 HTk.out).mono ?_
        rw [HC.out]
        rintro e w3 ⟨rfl, ha3, hg3⟩
        have hz3 := hg3.size
        have HA3 := Lib.hid ha3
        have HT3 := Lib.hid (tabs_kept HTk.out hg3 (by omega) (by omega) ha0 ha1)
        clear ha3
        go_wp2_with fail
        refine (peek_any a L2.step _ HA3.out HT3.out).mono ?_
        rintro e w4 ⟨rfl, hb4⟩
        have HA4 := Lib.hid (show LexAt w4 a L2.step from (hb4.block a HA3.out.lt).trans HA3.out)
        have HT4 := Lib.hid (tabs_below HT3.out hb4 (by omega) (by omega))
        have hg4 : w1.grownBy w4 (some a) := Lib.grownBy_below (hgk.trans hg3) hb4
        clear hb4 hg3
        go_wp2
        go_roundw
        case rel => exact ⟨k + 1, by rw [HST.out], by first | (rw [HI1.out]; done) | (rw [HI1.out]; go_num), by first | (rw [HN1.out]; done) | (rw [HN1.out]; go_num), by rw [HST.out]; exact HA4, HNX, hg4, HT4⟩
        case measure =>
          rw [cursOf_at HA4.out, HCU.out, HRB.out, HBN.out]
          omega

end Go.Proofs.YthohpccmleodpaaFmt
