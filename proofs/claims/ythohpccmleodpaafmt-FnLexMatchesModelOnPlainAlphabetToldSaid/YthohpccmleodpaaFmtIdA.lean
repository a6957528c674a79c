/-
  lexIdentifier: the longest run of identifier's bytes becomes one token. IsValidIdentifier.
-/
import Derived.Test.YthohpccmleodpaaFmtIdent
import Derived.Test.YthohpccmleodpaaFmtEmitC
import Derived.Test.YthohpccmleodpaaFmtNl
import Derived.Test.YthohpccmleodpaaFmtShims
import Derived.StillTailTactics
namespace Go.Proofs.YthohpccmleodpaaFmt
open Go Go.RowKit Go.Shelf

theorem idC_low {r : Int} (h : idC r = true) : 0 ≤ r ∧ r < 128 := by
  unfold idC idF isUp isLo isNu at h
  simp at h
  omega
theorem idF_C {r : Int} (h : idF r = true) : idC r = true := by unfold idC; rw [h]; rfl

/-- Behind p lie k bytes of an identifier, and no more. -/
structure IdRun (s : ByteArray) (p k : Nat) : Prop where
  fit : p + k ≤ s.size
  all : ∀ j, j < k → idC (byteAt s (p + j)) = true
  stop : p + k = s.size ∨ (p + k < s.size ∧ idC (Utf8.decode s (p + k)).1 = false)

/-- An identifier's rune under the cursor is one byte. -/
theorem rune_idC {L : LexSt} (h : idC L.rune = true) : L.bn < L.inp.size ∧ idC (byteAt L.inp L.bn) = true ∧ L.step.bn = L.bn + 1 := by
  by_cases hb : L.bn < L.inp.size
  · rw [LexSt.rune_in hb] at h
    have hlow := idC_low h
    by_cases hl : byteAt L.inp L.bn < 128
    · have hd := decode_low L.inp L.bn hb hl
      rw [hd] at h
      refine ⟨hb, h, ?_⟩
      unfold LexSt.step
      rw [if_pos hb, hd]
      split <;> rfl
    · have := (decode_hi L.inp L.bn hb (by omega)).1
      omega
  · rw [LexSt.rune_end (by omega)] at h
    have := idC_low h
    omega
theorem rune_not {s : ByteArray} {L : LexSt} (hi : Inv s L) (h : idC L.rune = false) : L.bn = s.size ∨ (L.bn < s.size ∧ idC (Utf8.decode s L.bn).1 = false) := by
  have h1 := hi.inp
  have h2 := hi.le
  by_cases hb : L.bn < L.inp.size
  · rw [LexSt.rune_in hb, h1] at h
    rw [h1] at hb
    exact .inr ⟨hb, h⟩
  · rw [h1] at hb
    exact .inl (by omega)

/-- What the loop of lexIdentifier knows behind k steps. -/
structure IdTo (s : ByteArray) (L : LexSt) (k : Nat) : Prop where
  bn : (L.steps k).bn = L.bn + k
  fit : L.bn + k ≤ s.size
  all : ∀ j, j < k → idC (byteAt s (L.bn + j)) = true
theorem IdTo.zero {s : ByteArray} {L : LexSt} (h : Inv s L) : IdTo s L 0 := ⟨rfl, h.le, fun j hj => absurd hj (by omega)⟩
theorem IdTo.next {s : ByteArray} {L : LexSt} {k : Nat} (hi : Inv s L) (h : IdTo s L k) (hr : idC (L.steps k).rune = true) : IdTo s L (k + 1) := by
  obtain ⟨h1, h2, h3⟩ := rune_idC hr
  have e := (hi.steps k).inp
  rw [e, h.bn] at h1
  rw [e, h.bn] at h2
  refine ⟨by show (L.steps k).step.bn = _; rw [h3, h.bn]; omega, by omega, fun j hj => ?_⟩
  by_cases hjk : j < k
  · exact h.all j hjk
  · obtain rfl : j = k := by omega
    exact h2
theorem IdTo.run {s : ByteArray} {L : LexSt} {k : Nat} (hi : Inv s L) (h : IdTo s L k) (hr : idC (L.steps k).rune = false) : IdRun s L.bn k := by
  have := rune_not (hi.steps k) hr
  rw [h.bn] at this
  exact ⟨h.fit, h.all, this⟩

/-- The cursor, out of the lexer's own cell. -/
def curOf (w : World) (a : Nat) : Nat := match w.cell? ⟨a, 10, none⟩ with | some (.int _ z) => z.toNat | _ => 0
theorem curOf_at {w : World} {a : Nat} {L : LexSt} (h : LexAt w a L) : curOf w a = L.bn := by
  unfold curOf
  rw [h.cell 10]
  simp [LexSt.cells]

def IdPost (w : World) (s : ByteArray) (a : Nat) (L : LexSt) (B n : Nat) (xs : List Value) (t : Nat) (e : Ending) (w' : World) : Prop :=
  e = .returned (.tuple #[]) ∧ ∃ k g cap M, IdRun s L.bn k ∧ LexAt w' a ({ L.steps k with toks := .slice (some ⟨g, 0, none⟩) (n + 1) cap, fod := .slice (some ⟨M, 0, none⟩) 0 0 } : LexSt).reset ∧
    w'.ownsRow B 47 11 (.slice (some ⟨g, 0, none⟩) (n + 1) cap) (n + 1) (xs ++ tokCells L.fod (s.extract t (L.bn + k)) ⟨#[]⟩ ⟨#[]⟩ L.src L.im L.tl L.tc (L.steps k).loc1 (L.steps k).loc2 (kwKind (s.extract t (L.bn + k)))) ∧
    (L.steps k).bn = L.bn + k ∧ g ≠ a ∧ Kept (fun i => i = a ∨ L.toks.ownBlock = some i) w w' ∧ w.heap.size ≤ M ∧ M ≠ g ∧ w'.heap[M]? = some (.cells #[] 80 (0, 0))

set_option maxHeartbeats 3200000 in
set_option maxRecDepth 100000 in
theorem lexIdentifier (s : ByteArray) (a : Nat) (L : LexSt) (B n : Nat) (xs : List Value) (w : World) (h : LexAt w a L) (hi : Inv s L) (hs : s.size ≤ 1099511627775) (p : Option Addr) (hp : L.src = .pointer p) (fp : Option Addr) (fn fc : Nat) (hf : L.fod = .slice fp fn fc)
    (hown : w.ownsRow B 47 11 L.toks n xs) (hne : L.toks.ownBlock ≠ some a) (hB : B ≤ w.heap.size) (hn : n ≤ 1000000000000) (t : Nat) (ht : L.ts = t) (ht1 : t ≤ L.bn) (hr : idF L.rune = true)
    (hT : Lib.Utf8Tabs 0 1 w) (ha0 : 0 ≠ a) (ha1 : 1 ≠ a) :
    Calls Tryf.prog 28 #[.pointer (some ⟨a, 0, none⟩)] w (IdPost w s a L B n xs t) := by
  obtain ⟨g0, g1⟩ := tabs_lt hT
  have HT := Lib.hid hT
  have HA := Lib.hid h
  have HI := Lib.hid hi
  have HO := Lib.hid hown
  have HP := Lib.hid hp
  have HF := Lib.hid hf
  have HTS := Lib.hid ht
  have HR := Lib.hid hr
  have hlt := h.lt
  clear hT h hi hown hp hf ht hr
  go_enter Tryf.func28, Tryf.ntmps28
  go_wp2_with fail
  refine (peek_any a L _ HA.out HT.out).mono ?_
  rintro e w1 ⟨rfl, hb1⟩
  have hz1 := hb1.size
  have HA1 := Lib.hid (show LexAt w1 a L from (hb1.block a hlt).trans HA.out)
  have HT1 := Lib.hid (tabs_below HT.out hb1 g0 g1)
  go_wp2_with fail
  refine (idF_calls L.rune _).mono ?_
  rw [HR.out]
  rintro e w2 ⟨rfl, rfl⟩
  go_wp2
  go_loopw [2] (fun r wr => ∃ k : Nat, r = .int .i32 (L.steps k).rune ∧ Hid (LexAt wr a (L.steps k)) ∧ Hid (IdTo s L k) ∧ w1.grownBy wr (some a) ∧ Hid (Lib.Utf8Tabs 0 1 wr)) (fun _ wr => s.size - curOf wr a)
  case atStart => exact ⟨0, rfl, HA1, Lib.hid (IdTo.zero HI.out), World.grownBy.refl w1 _, HT1⟩
  case round =>
    obtain ⟨k, rfl, HAk, HK, hgk, HTk⟩ := hrel
    have hzk := hgk.size
    have hinv := HI.out.steps k
    have hbn := HK.out.bn
    have hcu := curOf_at HAk.out
    cases hrr : idC (L.steps k).rune
    · have hrun := IdTo.run HI.out HK.out hrr
      have HRUN := Lib.hid hrun
      generalize hL : L.steps k = L2 at HAk hinv hbn hrr hcu
      have HL2 := Lib.hid hL
      have HI2 := Lib.hid hinv
      have HBN := Lib.hid hbn
      have HCU := Lib.hid hcu
      have HRR := Lib.hid hrr
      clear hL hinv hbn hrr hrun hcu
      by_cases hm : L2.rune = -1
      · have hm1 : (L2.rune != -1) = false := by rw [hm]; rfl
        have HM := Lib.hid hm
        clear hm

        have hls := HI2.out.lsb
        have hk4 := (steps_keeps L k).2.2.2.1
        have hk5 := (steps_keeps L k).2.2.2.2.1
        have hk6 := (steps_keeps L k).2.2.2.2.2.1
        have hk7 := (steps_keeps L k).2.2.2.2.2.2.1
        rw [HL2.out] at hk4 hk5 hk6 hk7
        have K4 := Lib.hid hk4
        have K5 := Lib.hid hk5
        have K6 := Lib.hid hk6
        have K7 := Lib.hid hk7
        have c2 : wr.cell? ⟨a, 2, none⟩ = some (.string s) := (HAk.out.cell 2).trans (by rw [← HI2.out.inp]; rfl)
        have c6 : wr.cell? ⟨a, 6, none⟩ = some (.int .i64 t) := (HAk.out.cell 6).trans (by rw [← HTS.out, ← K7.out]; rfl)
        have c10 : wr.cell? ⟨a, 10, none⟩ = some (.int .i64 ((L.bn + k : Nat) : Int)) := (HAk.out.cell 10).trans (by rw [← HBN.out]; rfl)
        have q0 : (0 : Int) ≤ (t : Int) := Int.natCast_nonneg _
        have q1 : (t : Int) ≤ ((L.bn + k : Nat) : Int) := by omega
        have q2 : ((L.bn + k : Nat) : Int) ≤ (s.size : Int) := by have := HK.out.fit; omega
        have hgk2 : w.grownBy wr (some a) := ⟨hgk.os.trans hb1.os, hgk.tape.trans hb1.tape, hgk.output.trans hb1.output, Nat.le_trans hz1 hzk, fun i hi hne => (hgk.block i (by omega) hne).trans (hb1.block i hi)⟩
        have HOW := Lib.hid (show wr.ownsRow B 47 11 L2.toks n xs by
          rw [K5.out]
          refine ownsRow_same HO.out fun g hg => ?_
          obtain ⟨c, fz, hc⟩ := Lib.ownsRow_kind HO.out g hg
          exact hgk2.block g (Array.getElem?_eq_some_iff.1 hc).1 (fun e1 => hne (by rw [hg, ← e1])))
        generalize hQ : L.bn + k = Q at c10 q1 q2
        have HQ := Lib.hid hQ
        clear hk4 hk5 hk6 hk7 hQ
        go_wp2_with fail
        go_still_tail 16, (by kernel_rfl)
        still_call ((kw_calls _ _).mono fun _ _ ⟨h1, h2⟩ => ⟨h1, h2.symm⟩)
        refine wpStill_nil ?_
        change wpList _ _ _ _ _ wr.drew
        go_wp2_with fail
        refine (emitToken a L2 _ B n xs _ (by exact HAk.out) p (K4.out.trans HP.out) fp fn fc (K6.out.trans HF.out) (by exact HOW.out) (by rw [K5.out]; exact hne) (by show B ≤ wr.heap.size; omega) hn (by rw [HBN.out, HQ.out]; omega) hls.1 hls.2 t (K7.out.trans HTS.out) (by rw [HBN.out, HQ.out]; omega) (by rw [HBN.out, HQ.out, HI2.out.inp]; omega)).mono ?_
        rintro e w7 ⟨rfl, g, cap, M, hL7, hown7, hga, hg7, hk7, hm1, hm2, hm3⟩
        have HM := Lib.hid (And.intro hm1 (And.intro hm2 hm3))
        clear hm1 hm2 hm3
        have HH7 := Lib.hid hL7
        have HO7 := Lib.hid hown7
        have HK7 := Lib.hid hk7
        clear hown7 hk7 hL7
        go_wp2
        go_end0
        refine ⟨rfl, k, g, cap, M, HRUN.out, by rw [HL2.out]; exact HH7.out, ?_, by rw [HL2.out]; exact HBN.out, hga, ?_, Nat.le_trans (Nat.le_trans hz1 hzk) HM.out.1, HM.out.2.1, HM.out.2.2⟩
        · have := HO7.out
          obtain ⟨m1, m2, _, m4, m5, m6, m7, m8, m9⟩ := steps_keeps L k
          rw [HL2.out] at m1 m2 m4 m5 m6 m7 m8 m9
          rw [m2, m4, m6, m8, m9, HBN.out, HI2.out.inp, ← HQ.out] at this
          rw [HL2.out]
          exact this
        · have h1 : Kept (fun i => i = a ∨ L2.toks.ownBlock = some i) wr w7 := ⟨HK7.out.os, HK7.out.tape, HK7.out.output, HK7.out.size, HK7.out.block⟩
          rw [K5.out] at h1
          exact (Kept.ofGrown hgk2 (fun i _ e1 => .inl (by cases e1; rfl))).trans h1

      · have hm1 : (L2.rune != -1) = true := bne_iff_ne.2 hm
        clear hm
        go_wp2_with fail
        refine (idC_calls L2.rune _).mono ?_
        rw [HRR.out]
        rintro e w2 ⟨rfl, rfl⟩

        have hls := HI2.out.lsb
        have hk4 := (steps_keeps L k).2.2.2.1
        have hk5 := (steps_keeps L k).2.2.2.2.1
        have hk6 := (steps_keeps L k).2.2.2.2.2.1
        have hk7 := (steps_keeps L k).2.2.2.2.2.2.1
        rw [HL2.out] at hk4 hk5 hk6 hk7
        have K4 := Lib.hid hk4
        have K5 := Lib.hid hk5
        have K6 := Lib.hid hk6
        have K7 := Lib.hid hk7
        have c2 : wr.cell? ⟨a, 2, none⟩ = some (.string s) := (HAk.out.cell 2).trans (by rw [← HI2.out.inp]; rfl)
        have c6 : wr.cell? ⟨a, 6, none⟩ = some (.int .i64 t) := (HAk.out.cell 6).trans (by rw [← HTS.out, ← K7.out]; rfl)
        have c10 : wr.cell? ⟨a, 10, none⟩ = some (.int .i64 ((L.bn + k : Nat) : Int)) := (HAk.out.cell 10).trans (by rw [← HBN.out]; rfl)
        have q0 : (0 : Int) ≤ (t : Int) := Int.natCast_nonneg _
        have q1 : (t : Int) ≤ ((L.bn + k : Nat) : Int) := by omega
        have q2 : ((L.bn + k : Nat) : Int) ≤ (s.size : Int) := by have := HK.out.fit; omega
        have hgk2 : w.grownBy wr (some a) := ⟨hgk.os.trans hb1.os, hgk.tape.trans hb1.tape, hgk.output.trans hb1.output, Nat.le_trans hz1 hzk, fun i hi hne => (hgk.block i (by omega) hne).trans (hb1.block i hi)⟩
        have HOW := Lib.hid (show wr.ownsRow B 47 11 L2.toks n xs by
          rw [K5.out]
          refine ownsRow_same HO.out fun g hg => ?_
          obtain ⟨c, fz, hc⟩ := Lib.ownsRow_kind HO.out g hg
          exact hgk2.block g (Array.getElem?_eq_some_iff.1 hc).1 (fun e1 => hne (by rw [hg, ← e1])))
        generalize hQ : L.bn + k = Q at c10 q1 q2
        have HQ := Lib.hid hQ
        clear hk4 hk5 hk6 hk7 hQ
        go_wp2_with fail
        go_still_tail 16, (by kernel_rfl)
        still_call ((kw_calls _ _).mono fun _ _ ⟨h1, h2⟩ => ⟨h1, h2.symm⟩)
        refine wpStill_nil ?_
        change wpList _ _ _ _ _ wr.drew
        go_wp2_with fail
        refine (emitToken a L2 _ B n xs _ (by exact HAk.out) p (K4.out.trans HP.out) fp fn fc (K6.out.trans HF.out) (by exact HOW.out) (by rw [K5.out]; exact hne) (by show B ≤ wr.heap.size; omega) hn (by rw [HBN.out, HQ.out]; omega) hls.1 hls.2 t (K7.out.trans HTS.out) (by rw [HBN.out, HQ.out]; omega) (by rw [HBN.out, HQ.out, HI2.out.inp]; omega)).mono ?_
        rintro e w7 ⟨rfl, g, cap, M, hL7, hown7, hga, hg7, hk7, hm1, hm2, hm3⟩
        have HM := Lib.hid (And.intro hm1 (And.intro hm2 hm3))
        clear hm1 hm2 hm3
        have HH7 := Lib.hid hL7
        have HO7 := Lib.hid hown7
        have HK7 := Lib.hid hk7
        clear hown7 hk7 hL7
        go_wp2
        go_end0
        refine ⟨rfl, k, g, cap, M, HRUN.out, by rw [HL2.out]; exact HH7.out, ?_, by rw [HL2.out]; exact HBN.out, hga, ?_, Nat.le_trans (Nat.le_trans hz1 hzk) HM.out.1, HM.out.2.1, HM.out.2.2⟩
        · have := HO7.out
          obtain ⟨m1, m2, _, m4, m5, m6, m7, m8, m9⟩ := steps_keeps L k
          rw [HL2.out] at m1 m2 m4 m5 m6 m7 m8 m9
          rw [m2, m4, m6, m8, m9, HBN.out, HI2.out.inp, ← HQ.out] at this
          rw [HL2.out]
          exact this
        · have h1 : Kept (fun i => i = a ∨ L2.toks.ownBlock = some i) wr w7 := ⟨HK7.out.os, HK7.out.tape, HK7.out.output, HK7.out.size, HK7.out.block⟩
          rw [K5.out] at h1
          exact (Kept.ofGrown hgk2 (fun i _ e1 => .inl (by cases e1; rfl))).trans h1

    · have hm1 : ((L.steps k).rune != -1) = true := bne_iff_ne.2 (fun e1 => by rw [e1] at hrr; exact absurd (idC_low hrr).1 (by omega))
      have hnx := IdTo.next HI.out HK.out hrr
      have hrb := (rune_idC hrr).2.2
      have HNX := Lib.hid hnx
      have hfit := hnx.fit
      generalize hL : L.steps k = L2 at HAk hinv hbn hrr hcu hm1 hrb
      have HL2 := Lib.hid hL
      have HI2 := Lib.hid hinv
      have HBN := Lib.hid hbn
      have HCU := Lib.hid hcu
      have HRR := Lib.hid hrr
      have HRB := Lib.hid hrb
      clear hL hinv hbn hrr hcu hnx hrb
      go_wp2_with fail
      refine (idC_calls L2.rune _).mono ?_
      rw [HRR.out]
      rintro e w2 ⟨rfl, rfl⟩
      go_wp2_with fail
      refine (next_any a L2 _ HAk.out (by rw [HI2.out.inp]; omega) (HI2.out.lnb (by omega)).1 (HI2.out.lnb (by omega)).2 HTk.out).mono ?_
      rintro e w3 ⟨rfl, ha3, hg3⟩
      have hz3 := hg3.size
      have HA3 := Lib.hid ha3
      have HT3 := Lib.hid (tabs_kept HTk.out hg3 (by omega) (by omega) ha0 ha1)
      clear ha3
      go_wp2_with fail
      refine (peek_any a L2.step _ HA3.out HT3.out).mono ?_
      rintro e w4 ⟨rfl, hb4⟩
      have HA4 := Lib.hid (show LexAt w4 a L2.step from (hb4.block a HA3.out.lt).trans HA3.out)
      have HT4 := Lib.hid (tabs_below HT3.out hb4 (by omega) (by omega))
      have hg4 : w1.grownBy w4 (some a) := Lib.grownBy_below (hgk.trans hg3) hb4
      have hstep : L.steps (k + 1) = L2.step := by show (L.steps k).step = _; rw [HL2.out]
      have HST := Lib.hid hstep
      clear hstep hb4 hg3
      go_wp2
      go_roundw
      case rel => exact ⟨k + 1, by rw [HST.out], by rw [HST.out]; exact HA4, HNX, hg4, HT4⟩
      case measure =>
        rw [curOf_at HA4.out, HCU.out, HRB.out, HBN.out]
        omega

end Go.Proofs.YthohpccmleodpaaFmt
