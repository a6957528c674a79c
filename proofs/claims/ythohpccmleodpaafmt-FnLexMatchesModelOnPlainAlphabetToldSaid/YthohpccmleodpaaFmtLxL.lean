/-
  Lex on the plain alphabet: the walk.
-/
import Derived.Test.YthohpccmleodpaaFmtLxT
import Derived.Deep.Cut
import Derived.Deep.CutBlock
import Derived.IntWalk
import Derived.Stop.IfaceNil
namespace Go.Proofs.YthohpccmleodpaaFmt
open Go Go.RowKit Go.Shelf Go.Extern.Stop Go.Stop
namespace Lx
attribute [local go_sem ↓] Go.wp_at_zero Go.wp_at_succ

/-- What Lex hands back. -/
def LexPost (s : ByteArray) (w : World) (e : Ending) (w' : World) : Prop :=
  ((∃ ts g cap ys, e = .returned (.tuple #[.slice (some ⟨g, 0, none⟩) (ts.length + 1) cap, .nilIface]) ∧ Res s 0 (some ts) ∧ w'.ownsRow w.heap.size 47 11 (.slice (some ⟨g, 0, none⟩) (ts.length + 1) cap) (ts.length + 1) ys ∧ TokList (ts ++ [(36, ⟨#[]⟩)]) ys ∧ ts.length ≤ s.size) ∨
    (∃ v, e = .returned (.tuple #[.slice none 0 0, .iface 112 v]) ∧ Res s 0 none)) ∧ Below w.heap.size w w'
theorem nl_le (s : ByteArray) (p k : Nat) : nlTo s p k ≤ k := nlTo_le s p k

set_option maxHeartbeats 40000000 in
set_option maxRecDepth 100000 in
theorem lex (F : Interp) (d im s : ByteArray) (w : World) (hP : Plain s) (hs : s.size ≤ 1000000) (hF : F.answers w.tape) (hT : Lib.Utf8Tabs 0 1 w) :
    Calls Tryf.prog 12 #[.string d, .string im, .string s] w (LexPost s w) := by
  obtain ⟨g0, g1⟩ := tabs_lt hT
  have HT := Lib.hid hT
  have HF := Lib.hid hF
  have HP := Lib.hid hP
  clear hT hF hP
  go_enter Tryf.func12, Tryf.ntmps12
  go_wp2_with fail
  refine (makeLexer d im s (by omega) _).mono ?_
  rintro e w0 ⟨a, M, rfl, hN1, hL0, hb0⟩
  have hS0 := LxSt.start hL0 hb0 hN1
  have HS0 : Hid (∃ L ts, LxSt s w w0 a L ts 0) := Lib.hid ⟨_, _, hS0⟩
  have ga0 : 0 ≠ a := by omega
  have ga1 : 1 ≠ a := by omega
  clear hS0 hL0 hb0
  go_wp2
  go_loopw [9] (fun _e wr => Hid (∃ L ts, LxSt s w wr a L ts 0)) (fun _ wr => s.size - cursOf wr a)
  case atStart => exact HS0
  case round =>
    clear HS0
    obtain ⟨L, ts, hS⟩ := hrel.out
    have HS := Lib.hid hS
    have HTw := Lib.hid (tabs_below HT.out hS.below g0 g1)
    have hcu := cursOf_at hS.here
    have HCU := Lib.hid hcu
    clear hS hrel hcu
    go_wp2_with fail
    refine (lexWhitespace s a L _ HS.out.here HS.out.inv (by omega) HTw.out ga0 ga1).mono ?_
    rintro e w1 ⟨k, rfl, hrun, hbn, hl1, hgk⟩
    have hk1 := hrun.fit
    have hnl := nl_le s L.bn k
    have S1 := HS.out.move hgk hl1 (HS.out.inv.steps k) (steps_keeps L k).2.2.2.1 (steps_keeps L k).2.2.2.2.1 (steps_keeps L k).2.2.2.2.2.1 (by rw [hbn]; exact HS.out.pre.spaces k hrun.fit hrun.all) (by rw [hbn]; have := HS.out.len; omega)
    have hstop := hrun.stop
    rw [← hbn] at hstop hk1
    obtain ⟨L1, hL1⟩ : ∃ L1, L1 = L.steps k := ⟨_, rfl⟩
    rw [← hL1] at S1 hstop hk1 hbn
    have HST := Lib.hid hstop
    have HBN := Lib.hid hbn
    have HS1 := Lib.hid S1
    have HT1 := Lib.hid (tabs_below HT.out S1.below g0 g1)
    obtain ⟨nl, hnl2⟩ : ∃ nl, nl = nlTo s L.bn k := ⟨_, rfl⟩
    obtain ⟨ind, hind2⟩ : ∃ ind, ind = indTo s L.bn k := ⟨_, rfl⟩
    rw [← hnl2, ← hind2]
    have hnlb : nl ≤ 1000000 := by rw [hnl2]; omega
    clear hnl2 hind2 hL1 hl1 hgk hrun hstop hbn S1 hnl hk1
    go_wp2_with fail
    refine (peek_any a L1 _ HS1.out.here HT1.out).mono ?_
    rintro e w2 ⟨rfl, hb2⟩
    have HS2 := Lib.hid (HS1.out.up hb2)
    clear hb2 HS1 HT1 HTw
    rcases plain_rune HP.out HS2.out.inv with ⟨hlt, hr, hst, hok⟩ | ⟨hend, hr⟩
    case inr =>
      as_aux_lemma =>
        rw [hr]
        have HT2 := Lib.hid (tabs_below HT.out HS2.out.below g0 g1)
        have hlnb := HS2.out.inv.lnb (by omega)
        have HEND := Lib.hid hend
        have hle : L1.inp.size ≤ L1.bn := by rw [HS2.out.inv.inp]; omega
        have HLE := Lib.hid hle
        clear hr hend hle
        go_wp2_with fail
        refine (next_any a L1 _ HS2.out.here (by rw [HS2.out.inv.inp]; omega) hlnb.1 hlnb.2 HT2.out).mono ?_
        rintro e w3 ⟨rfl, hl3, hg3⟩
        rw [LexSt.step_end HLE.out] at hl3
        have HS3 := Lib.hid (HS2.out.move hg3 hl3 HS2.out.inv rfl rfl rfl HS2.out.pre HS2.out.len)
        have hlsb := HS3.out.inv.lsb
        clear hl3 hg3 HS2 HT2
        go_wp2_with fail
        refine (resetTokenStart a L1 _ HS3.out.here (by rw [HEND.out]; omega) hlsb.1 hlsb.2).mono ?_
        rintro e w4 ⟨rfl, hl4, hg4⟩
        have HS4 := Lib.hid (HS3.out.reset hl4 hg4)
        clear hl4 hg4 HS3
        obtain ⟨xs, hx, htl⟩ := HS4.out.toks
        obtain ⟨q, hq⟩ := HS4.out.src
        obtain ⟨fxs, hf⟩ := HS4.out.fod
        obtain ⟨fp, fn, fc, hfs⟩ := own_slice hf
        have HX := Lib.hid hx
        have HTL := Lib.hid htl
        have HQ := Lib.hid hq
        have HFS := Lib.hid hfs
        have hlen := HS4.out.len
        have hbs := HS4.out.below.size
        have hbn4 : L1.reset.bn = s.size := HEND.out
        have HBN4 := Lib.hid hbn4
        have hinp := HS4.out.inv.inp
        have HINP := Lib.hid hinp
        have hlenS : ts.length ≤ s.size := by rw [← HBN4.out]; exact hlen
        clear hx htl hq hfs hf hbn4 hinp
        go_wp2_with fail
        refine (emitToken a L1.reset 36 w.heap.size ts.length xs _ HS4.out.here q HQ.out fp fn fc HFS.out HX.out (own_ne HX.out HS4.out.here (by decide)) hbs (by omega) (by rw [HBN4.out]; omega) HS4.out.inv.lsb.1 HS4.out.inv.lsb.2 L1.reset.bn rfl (Nat.le_refl _) (by rw [HBN4.out, HINP.out]; omega)).mono ?_
        rintro e w5 he
        obtain ⟨g, cap, ys, c4, ho, hty, hbe⟩ := HS4.out.eof HX.out HTL.out he
        obtain ⟨rfl, _⟩ := he
        have HO := Lib.hid (show _ ∧ _ ∧ _ from ⟨ho, hty, hbe⟩)
        have HRES := Lib.hid (HS4.out.pre.done (by rw [HBN4.out]; omega))
        clear ho hty hbe
        go_wp2
        first
          | go_ret2
          | (try rw [Exit.noGoto_ret]; go_ret2)
        exact ⟨.inl ⟨ts, g, cap, ys, rfl, HRES.out, HO.out.1, HO.out.2.1, hlenS⟩, HO.out.2.2⟩
    case inl =>
    rw [hr]
    have hnws : isWs (byteAt s L1.bn) = false := by
      rcases HST.out with e | ⟨_, e⟩
      · omega
      · exact e
    have hcl : 0 ≤ punct (byteAt s L1.bn) ∨ idF (byteAt s L1.bn) = true ∨ isD (byteAt s L1.bn) = true := by
      simp only [okB, Bool.or_eq_true] at hok
      rcases hok with ((h1 | h1) | h1) | h1
      · exact .inr (.inr h1)
      · exact .inr (.inl h1)
      · rw [hnws] at h1; cases h1
      · exact .inl (of_decide_eq_true h1)
    have HR := Lib.hid hr
    have HSTP := Lib.hid hst
    have HLT := Lib.hid hlt
    obtain ⟨p, hp⟩ : ∃ p, p = L1.bn := ⟨_, rfl⟩
    rw [← hp] at hcl hlt ⊢
    have HPP := Lib.hid hp
    have HP2' := Lib.hid hp
    have HCL := Lib.hid hcl
    have hm1 : (((byteAt s p : Nat) : Int) == -1) = false := beq_false_of_ne (by omega)
    clear hr hst hnws hok hcl hp
    go_upto_if 37 with (fail)
    go_cut [] from 36 to 44 (fun wd => Hid (∃ L2 fn, LxSt s w wd a L2 ts fn ∧ L2.bn = p))
    case first =>
      by_cases hn0 : 0 < nl
      · have i0 : (0 : Int) < (nl : Int) := by omega
        obtain ⟨fxs, hf⟩ := HS2.out.fod
        have HFX := Lib.hid hf
        have hbs := HS2.out.below.size
        clear hf
        go_wp2_with fail
        have S3 := HS2.out.up ((Below.refl w2.heap.size w2).alloc (Nat.le_refl _) (.cells #[] 9 (0, 0)))
        have HS3 := Lib.hid S3
        have hfx3 : (w2.alloc (.cells #[] 9 (0, 0))).ownsRow w.heap.size 80 4 L1.fod 0 fxs := World.ownsRow.alloc HFX.out _
        have HFX3 := Lib.hid hfx3
        clear S3 hfx3
        refine (addFodder a L1 0 ((nl : Int) - 1) ind (some ⟨w2.heap.size, 0, none⟩) 0 0 (.inl ⟨rfl, by omega⟩) (by omega) w.heap.size 0 fxs _ HS3.out.here HFX3.out (by simp; omega) (by omega)).mono ?_
        rintro e w5 ⟨rfl, v, hv, hov, _, hkv⟩
        have HS5 := Lib.hid (HS3.out.fodded hv hov hkv)
        clear hv hov hkv
        go_wp2_with fail
        go_meet
        exact Lib.hid ⟨_, 1, HS5.out, HPP.out.symm⟩
      · have i0 : ¬ (0 : Int) < (nl : Int) := by omega
        have i1 : decide ((0 : Int) < (nl : Int)) = false := decide_eq_false i0
        go_wp2_with fail
        go_meet
        exact Lib.hid ⟨L1, 0, HS2.out, HPP.out.symm⟩
    case rest =>
    obtain ⟨L2, fn, S2, hp2⟩ := hcut.out
    obtain ⟨W2, rfl⟩ : ∃ W2, W2 = wc := ⟨_, rfl⟩
    have HS2' := Lib.hid S2
    have HP2 := Lib.hid hp2
    have hlsb := S2.inv.lsb
    clear S2 hp2 hcut HR HSTP HLT HPP HST HS2
    go_wp2_with fail
    refine (resetTokenStart a L2 _ HS2'.out.here (by rw [HP2.out]; omega) hlsb.1 hlsb.2).mono ?_
    rintro e w4 ⟨rfl, hl4, hg4⟩
    have HS4 := Lib.hid (HS2'.out.reset hl4 hg4)
    have hts : L2.reset.ts = ((L2.reset.bn : Nat) : Int) := rfl
    have hbn3 : L2.reset.bn = p := HP2.out
    obtain ⟨L3, hL3⟩ : ∃ L3, L3 = L2.reset := ⟨_, rfl⟩
    rw [← hL3] at HS4 hts hbn3
    have HTS := Lib.hid hts
    have HB3 := Lib.hid hbn3
    clear hl4 hg4 HS2' hL3 hts hbn3 hlsb
    have HT4 := Lib.hid (tabs_below HT.out HS4.out.below g0 g1)
    go_wp2_with fail
    refine (peek_any a L3 _ HS4.out.here HT4.out).mono ?_
    rintro e w5 ⟨rfl, hb5⟩
    have HS5 := Lib.hid (HS4.out.up hb5)
    have HT5 := Lib.hid (tabs_below HT.out HS5.out.below g0 g1)
    clear hb5 HS4 HT4
    have hrs : L3.rune = ((byteAt s p : Nat) : Int) ∧ L3.step.bn = L3.bn + 1 ∧ L3.bn < s.size := by
      rcases plain_rune HP.out HS5.out.inv with ⟨h1, h2, h3, _⟩ | ⟨h1, _⟩
      · exact ⟨by rw [h2, HB3.out], h3, h1⟩
      · rw [HB3.out] at h1; omega
    have HRS := Lib.hid hrs
    rw [hrs.1]
    obtain ⟨xs, hx, htl⟩ := HS5.out.toks
    obtain ⟨q, hq⟩ := HS5.out.src
    obtain ⟨fxs, hf⟩ := HS5.out.fod
    obtain ⟨fp, fn', fc, hfs⟩ := own_slice hf
    have HX := Lib.hid hx
    have HTL := Lib.hid htl
    have HQ := Lib.hid hq
    have HFS := Lib.hid hfs
    have hlen := HS5.out.len
    rw [HB3.out] at hlen
    have hbs := HS5.out.below.size
    have hlnb := HS5.out.inv.lnb (by omega)
    have HINP := Lib.hid HS5.out.inv.inp
    have HFA : Hid (F.answers w5.tape) := Lib.hid (by rw [HS5.out.below.tape]; exact HF.out)
    clear hrs hx htl hq hfs hf
    rcases HCL.out with hpu | hid | hdi
    · have hpc := punct_cases hpu
      have HPU := Lib.hid hpu
      clear hpu
      rcases hpc with hc | hc | hc | hc | hc | hc | hc | hc
      · as_aux_lemma =>
          rw [hc]
          have HC := Lib.hid hc
          clear hc
          go_wp2_with fail
          refine (next_any a L3 _ HS5.out.here (by rw [HINP.out]; omega) hlnb.1 hlnb.2 HT5.out).mono ?_
          rintro e w6 ⟨rfl, hl6, hg6⟩
          have HL6 := Lib.hid hl6
          have HG6 := Lib.hid hg6
          have HO6 := Lib.hid (own_grown HX.out HS5.out.here (by decide) hg6)
          have hz6 := hg6.size
          clear hl6 hg6
          go_wp2_with fail
          refine (emitToken a L3.step 0 w.heap.size ts.length xs _ HL6.out q ((step_keeps L3).2.2.2.1.trans HQ.out) fp fn' fc ((step_keeps L3).2.2.2.2.2.1.trans HFS.out) (by rw [(step_keeps L3).2.2.2.2.1]; exact HO6.out) (by rw [(step_keeps L3).2.2.2.2.1]; exact own_ne HX.out HS5.out.here (by decide)) (by omega) (by omega) (by rw [HRS.out.2.1, HB3.out]; omega) HS5.out.inv.step.lsb.1 HS5.out.inv.step.lsb.2 L3.bn ((step_keeps L3).2.2.2.2.2.2.1.trans HTS.out) (by rw [HRS.out.2.1]; omega) (by rw [HRS.out.2.1, HS5.out.inv.step.inp]; exact HRS.out.2.2)).mono ?_
          rintro e w7 he
          obtain ⟨L', hS7, hbn7⟩ := HS5.out.punct HX.out HTL.out HRS.out.2.2 HRS.out.2.1 (by rw [HB3.out]; exact HPU.out) (by rw [HB3.out, HC.out]; rfl) HG6.out he
          obtain ⟨rfl, _⟩ := he
          have HS7 := Lib.hid hS7
          have HBN7 := Lib.hid hbn7
          clear hS7 hbn7
          go_wp2
          go_roundw
          case rel => exact Lib.hid ⟨_, _, HS7.out⟩
          case measure =>
            have h1 := cursOf_at HS7.out.here
            have h2 := HS7.out.inv.le
            rw [h1, HCU.out, HBN7.out, HB3.out]
            rw [HBN7.out, HB3.out] at h2
            have h3 := HBN.out
            have h4 := HP2'.out
            omega
      · as_aux_lemma =>
          rw [hc]
          have HC := Lib.hid hc
          clear hc
          go_wp2_with fail
          refine (next_any a L3 _ HS5.out.here (by rw [HINP.out]; omega) hlnb.1 hlnb.2 HT5.out).mono ?_
          rintro e w6 ⟨rfl, hl6, hg6⟩
          have HL6 := Lib.hid hl6
          have HG6 := Lib.hid hg6
          have HO6 := Lib.hid (own_grown HX.out HS5.out.here (by decide) hg6)
          have hz6 := hg6.size
          clear hl6 hg6
          go_wp2_with fail
          refine (emitToken a L3.step 1 w.heap.size ts.length xs _ HL6.out q ((step_keeps L3).2.2.2.1.trans HQ.out) fp fn' fc ((step_keeps L3).2.2.2.2.2.1.trans HFS.out) (by rw [(step_keeps L3).2.2.2.2.1]; exact HO6.out) (by rw [(step_keeps L3).2.2.2.2.1]; exact own_ne HX.out HS5.out.here (by decide)) (by omega) (by omega) (by rw [HRS.out.2.1, HB3.out]; omega) HS5.out.inv.step.lsb.1 HS5.out.inv.step.lsb.2 L3.bn ((step_keeps L3).2.2.2.2.2.2.1.trans HTS.out) (by rw [HRS.out.2.1]; omega) (by rw [HRS.out.2.1, HS5.out.inv.step.inp]; exact HRS.out.2.2)).mono ?_
          rintro e w7 he
          obtain ⟨L', hS7, hbn7⟩ := HS5.out.punct HX.out HTL.out HRS.out.2.2 HRS.out.2.1 (by rw [HB3.out]; exact HPU.out) (by rw [HB3.out, HC.out]; rfl) HG6.out he
          obtain ⟨rfl, _⟩ := he
          have HS7 := Lib.hid hS7
          have HBN7 := Lib.hid hbn7
          clear hS7 hbn7
          go_wp2
          go_roundw
          case rel => exact Lib.hid ⟨_, _, HS7.out⟩
          case measure =>
            have h1 := cursOf_at HS7.out.here
            have h2 := HS7.out.inv.le
            rw [h1, HCU.out, HBN7.out, HB3.out]
            rw [HBN7.out, HB3.out] at h2
            have h3 := HBN.out
            have h4 := HP2'.out
            omega
      · as_aux_lemma =>
          rw [hc]
          have HC := Lib.hid hc
          clear hc
          go_wp2_with fail
          refine (next_any a L3 _ HS5.out.here (by rw [HINP.out]; omega) hlnb.1 hlnb.2 HT5.out).mono ?_
          rintro e w6 ⟨rfl, hl6, hg6⟩
          have HL6 := Lib.hid hl6
          have HG6 := Lib.hid hg6
          have HO6 := Lib.hid (own_grown HX.out HS5.out.here (by decide) hg6)
          have hz6 := hg6.size
          clear hl6 hg6
          go_wp2_with fail
          refine (emitToken a L3.step 2 w.heap.size ts.length xs _ HL6.out q ((step_keeps L3).2.2.2.1.trans HQ.out) fp fn' fc ((step_keeps L3).2.2.2.2.2.1.trans HFS.out) (by rw [(step_keeps L3).2.2.2.2.1]; exact HO6.out) (by rw [(step_keeps L3).2.2.2.2.1]; exact own_ne HX.out HS5.out.here (by decide)) (by omega) (by omega) (by rw [HRS.out.2.1, HB3.out]; omega) HS5.out.inv.step.lsb.1 HS5.out.inv.step.lsb.2 L3.bn ((step_keeps L3).2.2.2.2.2.2.1.trans HTS.out) (by rw [HRS.out.2.1]; omega) (by rw [HRS.out.2.1, HS5.out.inv.step.inp]; exact HRS.out.2.2)).mono ?_
          rintro e w7 he
          obtain ⟨L', hS7, hbn7⟩ := HS5.out.punct HX.out HTL.out HRS.out.2.2 HRS.out.2.1 (by rw [HB3.out]; exact HPU.out) (by rw [HB3.out, HC.out]; rfl) HG6.out he
          obtain ⟨rfl, _⟩ := he
          have HS7 := Lib.hid hS7
          have HBN7 := Lib.hid hbn7
          clear hS7 hbn7
          go_wp2
          go_roundw
          case rel => exact Lib.hid ⟨_, _, HS7.out⟩
          case measure =>
            have h1 := cursOf_at HS7.out.here
            have h2 := HS7.out.inv.le
            rw [h1, HCU.out, HBN7.out, HB3.out]
            rw [HBN7.out, HB3.out] at h2
            have h3 := HBN.out
            have h4 := HP2'.out
            omega
      · as_aux_lemma =>
          rw [hc]
          have HC := Lib.hid hc
          clear hc
          go_wp2_with fail
          refine (next_any a L3 _ HS5.out.here (by rw [HINP.out]; omega) hlnb.1 hlnb.2 HT5.out).mono ?_
          rintro e w6 ⟨rfl, hl6, hg6⟩
          have HL6 := Lib.hid hl6
          have HG6 := Lib.hid hg6
          have HO6 := Lib.hid (own_grown HX.out HS5.out.here (by decide) hg6)
          have hz6 := hg6.size
          clear hl6 hg6
          go_wp2_with fail
          refine (emitToken a L3.step 3 w.heap.size ts.length xs _ HL6.out q ((step_keeps L3).2.2.2.1.trans HQ.out) fp fn' fc ((step_keeps L3).2.2.2.2.2.1.trans HFS.out) (by rw [(step_keeps L3).2.2.2.2.1]; exact HO6.out) (by rw [(step_keeps L3).2.2.2.2.1]; exact own_ne HX.out HS5.out.here (by decide)) (by omega) (by omega) (by rw [HRS.out.2.1, HB3.out]; omega) HS5.out.inv.step.lsb.1 HS5.out.inv.step.lsb.2 L3.bn ((step_keeps L3).2.2.2.2.2.2.1.trans HTS.out) (by rw [HRS.out.2.1]; omega) (by rw [HRS.out.2.1, HS5.out.inv.step.inp]; exact HRS.out.2.2)).mono ?_
          rintro e w7 he
          obtain ⟨L', hS7, hbn7⟩ := HS5.out.punct HX.out HTL.out HRS.out.2.2 HRS.out.2.1 (by rw [HB3.out]; exact HPU.out) (by rw [HB3.out, HC.out]; rfl) HG6.out he
          obtain ⟨rfl, _⟩ := he
          have HS7 := Lib.hid hS7
          have HBN7 := Lib.hid hbn7
          clear hS7 hbn7
          go_wp2
          go_roundw
          case rel => exact Lib.hid ⟨_, _, HS7.out⟩
          case measure =>
            have h1 := cursOf_at HS7.out.here
            have h2 := HS7.out.inv.le
            rw [h1, HCU.out, HBN7.out, HB3.out]
            rw [HBN7.out, HB3.out] at h2
            have h3 := HBN.out
            have h4 := HP2'.out
            omega
      · as_aux_lemma =>
          rw [hc]
          have HC := Lib.hid hc
          clear hc
          go_wp2_with fail
          refine (next_any a L3 _ HS5.out.here (by rw [HINP.out]; omega) hlnb.1 hlnb.2 HT5.out).mono ?_
          rintro e w6 ⟨rfl, hl6, hg6⟩
          have HL6 := Lib.hid hl6
          have HG6 := Lib.hid hg6
          have HO6 := Lib.hid (own_grown HX.out HS5.out.here (by decide) hg6)
          have hz6 := hg6.size
          clear hl6 hg6
          go_wp2_with fail
          refine (emitToken a L3.step 4 w.heap.size ts.length xs _ HL6.out q ((step_keeps L3).2.2.2.1.trans HQ.out) fp fn' fc ((step_keeps L3).2.2.2.2.2.1.trans HFS.out) (by rw [(step_keeps L3).2.2.2.2.1]; exact HO6.out) (by rw [(step_keeps L3).2.2.2.2.1]; exact own_ne HX.out HS5.out.here (by decide)) (by omega) (by omega) (by rw [HRS.out.2.1, HB3.out]; omega) HS5.out.inv.step.lsb.1 HS5.out.inv.step.lsb.2 L3.bn ((step_keeps L3).2.2.2.2.2.2.1.trans HTS.out) (by rw [HRS.out.2.1]; omega) (by rw [HRS.out.2.1, HS5.out.inv.step.inp]; exact HRS.out.2.2)).mono ?_
          rintro e w7 he
          obtain ⟨L', hS7, hbn7⟩ := HS5.out.punct HX.out HTL.out HRS.out.2.2 HRS.out.2.1 (by rw [HB3.out]; exact HPU.out) (by rw [HB3.out, HC.out]; rfl) HG6.out he
          obtain ⟨rfl, _⟩ := he
          have HS7 := Lib.hid hS7
          have HBN7 := Lib.hid hbn7
          clear hS7 hbn7
          go_wp2
          go_roundw
          case rel => exact Lib.hid ⟨_, _, HS7.out⟩
          case measure =>
            have h1 := cursOf_at HS7.out.here
            have h2 := HS7.out.inv.le
            rw [h1, HCU.out, HBN7.out, HB3.out]
            rw [HBN7.out, HB3.out] at h2
            have h3 := HBN.out
            have h4 := HP2'.out
            omega
      · as_aux_lemma =>
          rw [hc]
          have HC := Lib.hid hc
          clear hc
          go_wp2_with fail
          refine (next_any a L3 _ HS5.out.here (by rw [HINP.out]; omega) hlnb.1 hlnb.2 HT5.out).mono ?_
          rintro e w6 ⟨rfl, hl6, hg6⟩
          have HL6 := Lib.hid hl6
          have HG6 := Lib.hid hg6
          have HO6 := Lib.hid (own_grown HX.out HS5.out.here (by decide) hg6)
          have hz6 := hg6.size
          clear hl6 hg6
          go_wp2_with fail
          refine (emitToken a L3.step 7 w.heap.size ts.length xs _ HL6.out q ((step_keeps L3).2.2.2.1.trans HQ.out) fp fn' fc ((step_keeps L3).2.2.2.2.2.1.trans HFS.out) (by rw [(step_keeps L3).2.2.2.2.1]; exact HO6.out) (by rw [(step_keeps L3).2.2.2.2.1]; exact own_ne HX.out HS5.out.here (by decide)) (by omega) (by omega) (by rw [HRS.out.2.1, HB3.out]; omega) HS5.out.inv.step.lsb.1 HS5.out.inv.step.lsb.2 L3.bn ((step_keeps L3).2.2.2.2.2.2.1.trans HTS.out) (by rw [HRS.out.2.1]; omega) (by rw [HRS.out.2.1, HS5.out.inv.step.inp]; exact HRS.out.2.2)).mono ?_
          rintro e w7 he
          obtain ⟨L', hS7, hbn7⟩ := HS5.out.punct HX.out HTL.out HRS.out.2.2 HRS.out.2.1 (by rw [HB3.out]; exact HPU.out) (by rw [HB3.out, HC.out]; rfl) HG6.out he
          obtain ⟨rfl, _⟩ := he
          have HS7 := Lib.hid hS7
          have HBN7 := Lib.hid hbn7
          clear hS7 hbn7
          go_wp2
          go_roundw
          case rel => exact Lib.hid ⟨_, _, HS7.out⟩
          case measure =>
            have h1 := cursOf_at HS7.out.here
            have h2 := HS7.out.inv.le
            rw [h1, HCU.out, HBN7.out, HB3.out]
            rw [HBN7.out, HB3.out] at h2
            have h3 := HBN.out
            have h4 := HP2'.out
            omega
      · as_aux_lemma =>
          rw [hc]
          have HC := Lib.hid hc
          clear hc
          go_wp2_with fail
          refine (next_any a L3 _ HS5.out.here (by rw [HINP.out]; omega) hlnb.1 hlnb.2 HT5.out).mono ?_
          rintro e w6 ⟨rfl, hl6, hg6⟩
          have HL6 := Lib.hid hl6
          have HG6 := Lib.hid hg6
          have HO6 := Lib.hid (own_grown HX.out HS5.out.here (by decide) hg6)
          have hz6 := hg6.size
          clear hl6 hg6
          go_wp2_with fail
          refine (emitToken a L3.step 8 w.heap.size ts.length xs _ HL6.out q ((step_keeps L3).2.2.2.1.trans HQ.out) fp fn' fc ((step_keeps L3).2.2.2.2.2.1.trans HFS.out) (by rw [(step_keeps L3).2.2.2.2.1]; exact HO6.out) (by rw [(step_keeps L3).2.2.2.2.1]; exact own_ne HX.out HS5.out.here (by decide)) (by omega) (by omega) (by rw [HRS.out.2.1, HB3.out]; omega) HS5.out.inv.step.lsb.1 HS5.out.inv.step.lsb.2 L3.bn ((step_keeps L3).2.2.2.2.2.2.1.trans HTS.out) (by rw [HRS.out.2.1]; omega) (by rw [HRS.out.2.1, HS5.out.inv.step.inp]; exact HRS.out.2.2)).mono ?_
          rintro e w7 he
          obtain ⟨L', hS7, hbn7⟩ := HS5.out.punct HX.out HTL.out HRS.out.2.2 HRS.out.2.1 (by rw [HB3.out]; exact HPU.out) (by rw [HB3.out, HC.out]; rfl) HG6.out he
          obtain ⟨rfl, _⟩ := he
          have HS7 := Lib.hid hS7
          have HBN7 := Lib.hid hbn7
          clear hS7 hbn7
          go_wp2
          go_roundw
          case rel => exact Lib.hid ⟨_, _, HS7.out⟩
          case measure =>
            have h1 := cursOf_at HS7.out.here
            have h2 := HS7.out.inv.le
            rw [h1, HCU.out, HBN7.out, HB3.out]
            rw [HBN7.out, HB3.out] at h2
            have h3 := HBN.out
            have h4 := HP2'.out
            omega
      · as_aux_lemma =>
          rw [hc]
          have HC := Lib.hid hc
          clear hc
          go_wp2_with fail
          refine (next_any a L3 _ HS5.out.here (by rw [HINP.out]; omega) hlnb.1 hlnb.2 HT5.out).mono ?_
          rintro e w6 ⟨rfl, hl6, hg6⟩
          have HL6 := Lib.hid hl6
          have HG6 := Lib.hid hg6
          have HO6 := Lib.hid (own_grown HX.out HS5.out.here (by decide) hg6)
          have hz6 := hg6.size
          clear hl6 hg6
          go_wp2_with fail
          refine (emitToken a L3.step 9 w.heap.size ts.length xs _ HL6.out q ((step_keeps L3).2.2.2.1.trans HQ.out) fp fn' fc ((step_keeps L3).2.2.2.2.2.1.trans HFS.out) (by rw [(step_keeps L3).2.2.2.2.1]; exact HO6.out) (by rw [(step_keeps L3).2.2.2.2.1]; exact own_ne HX.out HS5.out.here (by decide)) (by omega) (by omega) (by rw [HRS.out.2.1, HB3.out]; omega) HS5.out.inv.step.lsb.1 HS5.out.inv.step.lsb.2 L3.bn ((step_keeps L3).2.2.2.2.2.2.1.trans HTS.out) (by rw [HRS.out.2.1]; omega) (by rw [HRS.out.2.1, HS5.out.inv.step.inp]; exact HRS.out.2.2)).mono ?_
          rintro e w7 he
          obtain ⟨L', hS7, hbn7⟩ := HS5.out.punct HX.out HTL.out HRS.out.2.2 HRS.out.2.1 (by rw [HB3.out]; exact HPU.out) (by rw [HB3.out, HC.out]; rfl) HG6.out he
          obtain ⟨rfl, _⟩ := he
          have HS7 := Lib.hid hS7
          have HBN7 := Lib.hid hbn7
          clear hS7 hbn7
          go_wp2
          go_roundw
          case rel => exact Lib.hid ⟨_, _, HS7.out⟩
          case measure =>
            have h1 := cursOf_at HS7.out.here
            have h2 := HS7.out.inv.le
            rw [h1, HCU.out, HBN7.out, HB3.out]
            rw [HBN7.out, HB3.out] at h2
            have h3 := HBN.out
            have h4 := HP2'.out
            omega
    · as_aux_lemma =>
        have hc := idF_cases hid
        have f123 : (((byteAt s p : Nat) : Int) == 123) = false := beq_false_of_ne (by omega)
        have f125 : (((byteAt s p : Nat) : Int) == 125) = false := beq_false_of_ne (by omega)
        have f91 : (((byteAt s p : Nat) : Int) == 91) = false := beq_false_of_ne (by omega)
        have f93 : (((byteAt s p : Nat) : Int) == 93) = false := beq_false_of_ne (by omega)
        have f44 : (((byteAt s p : Nat) : Int) == 44) = false := beq_false_of_ne (by omega)
        have f46 : (((byteAt s p : Nat) : Int) == 46) = false := beq_false_of_ne (by omega)
        have f40 : (((byteAt s p : Nat) : Int) == 40) = false := beq_false_of_ne (by omega)
        have f41 : (((byteAt s p : Nat) : Int) == 41) = false := beq_false_of_ne (by omega)
        have f59 : (((byteAt s p : Nat) : Int) == 59) = false := beq_false_of_ne (by omega)
        have f48 : (((byteAt s p : Nat) : Int) == 48) = false := beq_false_of_ne (by omega)
        have f49 : (((byteAt s p : Nat) : Int) == 49) = false := beq_false_of_ne (by omega)
        have f50 : (((byteAt s p : Nat) : Int) == 50) = false := beq_false_of_ne (by omega)
        have f51 : (((byteAt s p : Nat) : Int) == 51) = false := beq_false_of_ne (by omega)
        have f52 : (((byteAt s p : Nat) : Int) == 52) = false := beq_false_of_ne (by omega)
        have f53 : (((byteAt s p : Nat) : Int) == 53) = false := beq_false_of_ne (by omega)
        have f54 : (((byteAt s p : Nat) : Int) == 54) = false := beq_false_of_ne (by omega)
        have f55 : (((byteAt s p : Nat) : Int) == 55) = false := beq_false_of_ne (by omega)
        have f56 : (((byteAt s p : Nat) : Int) == 56) = false := beq_false_of_ne (by omega)
        have f57 : (((byteAt s p : Nat) : Int) == 57) = false := beq_false_of_ne (by omega)
        have f34 : (((byteAt s p : Nat) : Int) == 34) = false := beq_false_of_ne (by omega)
        have f39 : (((byteAt s p : Nat) : Int) == 39) = false := beq_false_of_ne (by omega)
        have f64 : (((byteAt s p : Nat) : Int) == 64) = false := beq_false_of_ne (by omega)
        have HID := Lib.hid hid
        clear hc hid
        go_wp2_with fail
        refine (idF_calls ((byteAt s p : Nat) : Int) _).mono ?_
        rw [HID.out]
        rintro e w6 ⟨rfl, rfl⟩
        clear f123 f125 f91 f93 f44 f46 f40 f41 f59 f48 f49 f50 f51 f52 f53 f54 f55 f56 f57 f34 f39 f64
        go_wp2_with fail
        refine (lexIdentifier s a L3 w.heap.size ts.length xs _ HS5.out.here HS5.out.inv (by omega) q HQ.out fp fn' fc HFS.out HX.out (own_ne HX.out HS5.out.here (by decide)) hbs (by omega) L3.bn HTS.out (Nat.le_refl _) (by rw [HRS.out.1]; exact HID.out) HT5.out ga0 ga1).mono ?_
        rintro e w7 he
        obtain ⟨L', t, hS7, hbn7⟩ := HS5.out.ident HP.out HX.out HTL.out HRS.out.2.2 (by rw [HB3.out]; exact HID.out) he
        obtain ⟨rfl, _⟩ := he
        have HS7 := Lib.hid hS7
        have HBN7 := Lib.hid hbn7
        clear hS7 hbn7
        go_wp2
        go_roundw
        case rel => exact Lib.hid ⟨_, _, HS7.out⟩
        case measure =>
          have h1 := cursOf_at HS7.out.here
          have h2 := HS7.out.inv.le
          have h5 := HBN7.out
          rw [HB3.out] at h5
          rw [h1, HCU.out]
          have h3 := HBN.out
          have h4 := HP2'.out
          omega
    · have hdc := isD_cases hdi
      have HDI := Lib.hid hdi
      have hdd : byteAt s p = 48 ∨ byteAt s p = 49 ∨ byteAt s p = 50 ∨ byteAt s p = 51 ∨ byteAt s p = 52 ∨ byteAt s p = 53 ∨ byteAt s p = 54 ∨ byteAt s p = 55 ∨ byteAt s p = 56 ∨ byteAt s p = 57 := by omega
      clear hdi hdc
      rcases hdd with hc | hc | hc | hc | hc | hc | hc | hc | hc | hc
      · as_aux_lemma =>
          rw [hc]
          have HC := Lib.hid hc
          clear hc
          go_wp2_with fail
          refine (lexNumber F s a L3 w.heap.size ts.length xs _ HS5.out.here HS5.out.inv (by omega) q HQ.out fp fn' fc HFS.out HX.out (own_ne HX.out HS5.out.here (by decide)) hbs (by omega) (by rw [HRS.out.1, HC.out]; omega) HFA.out HT5.out ga0 ga1).mono ?_
          rintro e w7 hpost
          rcases hpost with he | he
          · obtain ⟨L', t, hS7, hbn7⟩ := HS5.out.num HX.out HTL.out HRS.out.2.2 (by rw [HB3.out]; exact HDI.out) he
            obtain ⟨rfl, _⟩ := he
            have HS7 := Lib.hid hS7
            have HBN7 := Lib.hid hbn7
            clear hS7 hbn7
            go_wp2
            go_roundw
            case rel => exact Lib.hid ⟨_, _, HS7.out⟩
            case measure =>
              have h1 := cursOf_at HS7.out.here
              have h2 := HS7.out.inv.le
              have h5 := HBN7.out
              rw [HB3.out] at h5
              rw [h1, HCU.out]
              have h3 := HBN.out
              have h4 := HP2'.out
              omega
          · obtain ⟨⟨v, rfl⟩, hnr, _, hg7⟩ := he
            have HNR := Lib.hid (show _ ∧ _ from ⟨HS5.out.pre.fail HRS.out.2.2 (.nf (by rw [HB3.out]; exact HDI.out) hnr), HS5.out.below.trans (below_of_grown hg7 HS5.out.age hbs)⟩)
            clear hnr hg7
            go_wp2
            first
              | go_ret2
              | (try rw [Exit.noGoto_ret]; go_ret2)
            exact ⟨.inr ⟨v, rfl, HNR.out.1⟩, HNR.out.2⟩
      · as_aux_lemma =>
          rw [hc]
          have HC := Lib.hid hc
          clear hc
          go_wp2_with fail
          refine (lexNumber F s a L3 w.heap.size ts.length xs _ HS5.out.here HS5.out.inv (by omega) q HQ.out fp fn' fc HFS.out HX.out (own_ne HX.out HS5.out.here (by decide)) hbs (by omega) (by rw [HRS.out.1, HC.out]; omega) HFA.out HT5.out ga0 ga1).mono ?_
          rintro e w7 hpost
          rcases hpost with he | he
          · obtain ⟨L', t, hS7, hbn7⟩ := HS5.out.num HX.out HTL.out HRS.out.2.2 (by rw [HB3.out]; exact HDI.out) he
            obtain ⟨rfl, _⟩ := he
            have HS7 := Lib.hid hS7
            have HBN7 := Lib.hid hbn7
            clear hS7 hbn7
            go_wp2
            go_roundw
            case rel => exact Lib.hid ⟨_, _, HS7.out⟩
            case measure =>
              have h1 := cursOf_at HS7.out.here
              have h2 := HS7.out.inv.le
              have h5 := HBN7.out
              rw [HB3.out] at h5
              rw [h1, HCU.out]
              have h3 := HBN.out
              have h4 := HP2'.out
              omega
          · obtain ⟨⟨v, rfl⟩, hnr, _, hg7⟩ := he
            have HNR := Lib.hid (show _ ∧ _ from ⟨HS5.out.pre.fail HRS.out.2.2 (.nf (by rw [HB3.out]; exact HDI.out) hnr), HS5.out.below.trans (below_of_grown hg7 HS5.out.age hbs)⟩)
            clear hnr hg7
            go_wp2
            first
              | go_ret2
              | (try rw [Exit.noGoto_ret]; go_ret2)
            exact ⟨.inr ⟨v, rfl, HNR.out.1⟩, HNR.out.2⟩
      · as_aux_lemma =>
          rw [hc]
          have HC := Lib.hid hc
          clear hc
          go_wp2_with fail
          refine (lexNumber F s a L3 w.heap.size ts.length xs _ HS5.out.here HS5.out.inv (by omega) q HQ.out fp fn' fc HFS.out HX.out (own_ne HX.out HS5.out.here (by decide)) hbs (by omega) (by rw [HRS.out.1, HC.out]; omega) HFA.out HT5.out ga0 ga1).mono ?_
          rintro e w7 hpost
          rcases hpost with he | he
          · obtain ⟨L', t, hS7, hbn7⟩ := HS5.out.num HX.out HTL.out HRS.out.2.2 (by rw [HB3.out]; exact HDI.out) he
            obtain ⟨rfl, _⟩ := he
            have HS7 := Lib.hid hS7
            have HBN7 := Lib.hid hbn7
            clear hS7 hbn7
            go_wp2
            go_roundw
            case rel => exact Lib.hid ⟨_, _, HS7.out⟩
            case measure =>
              have h1 := cursOf_at HS7.out.here
              have h2 := HS7.out.inv.le
              have h5 := HBN7.out
              rw [HB3.out] at h5
              rw [h1, HCU.out]
              have h3 := HBN.out
              have h4 := HP2'.out
              omega
          · obtain ⟨⟨v, rfl⟩, hnr, _, hg7⟩ := he
            have HNR := Lib.hid (show _ ∧ _ from ⟨HS5.out.pre.fail HRS.out.2.2 (.nf (by rw [HB3.out]; exact HDI.out) hnr), HS5.out.below.trans (below_of_grown hg7 HS5.out.age hbs)⟩)
            clear hnr hg7
            go_wp2
            first
              | go_ret2
              | (try rw [Exit.noGoto_ret]; go_ret2)
            exact ⟨.inr ⟨v, rfl, HNR.out.1⟩, HNR.out.2⟩
      · as_aux_lemma =>
          rw [hc]
          have HC := Lib.hid hc
          clear hc
          go_wp2_with fail
          refine (lexNumber F s a L3 w.heap.size ts.length xs _ HS5.out.here HS5.out.inv (by omega) q HQ.out fp fn' fc HFS.out HX.out (own_ne HX.out HS5.out.here (by decide)) hbs (by omega) (by rw [HRS.out.1, HC.out]; omega) HFA.out HT5.out ga0 ga1).mono ?_
          rintro e w7 hpost
          rcases hpost with he | he
          · obtain ⟨L', t, hS7, hbn7⟩ := HS5.out.num HX.out HTL.out HRS.out.2.2 (by rw [HB3.out]; exact HDI.out) he
            obtain ⟨rfl, _⟩ := he
            have HS7 := Lib.hid hS7
            have HBN7 := Lib.hid hbn7
            clear hS7 hbn7
            go_wp2
            go_roundw
            case rel => exact Lib.hid ⟨_, _, HS7.out⟩
            case measure =>
              have h1 := cursOf_at HS7.out.here
              have h2 := HS7.out.inv.le
              have h5 := HBN7.out
              rw [HB3.out] at h5
              rw [h1, HCU.out]
              have h3 := HBN.out
              have h4 := HP2'.out
              omega
          · obtain ⟨⟨v, rfl⟩, hnr, _, hg7⟩ := he
            have HNR := Lib.hid (show _ ∧ _ from ⟨HS5.out.pre.fail HRS.out.2.2 (.nf (by rw [HB3.out]; exact HDI.out) hnr), HS5.out.below.trans (below_of_grown hg7 HS5.out.age hbs)⟩)
            clear hnr hg7
            go_wp2
            first
              | go_ret2
              | (try rw [Exit.noGoto_ret]; go_ret2)
            exact ⟨.inr ⟨v, rfl, HNR.out.1⟩, HNR.out.2⟩
      · as_aux_lemma =>
          rw [hc]
          have HC := Lib.hid hc
          clear hc
          go_wp2_with fail
          refine (lexNumber F s a L3 w.heap.size ts.length xs _ HS5.out.here HS5.out.inv (by omega) q HQ.out fp fn' fc HFS.out HX.out (own_ne HX.out HS5.out.here (by decide)) hbs (by omega) (by rw [HRS.out.1, HC.out]; omega) HFA.out HT5.out ga0 ga1).mono ?_
          rintro e w7 hpost
          rcases hpost with he | he
          · obtain ⟨L', t, hS7, hbn7⟩ := HS5.out.num HX.out HTL.out HRS.out.2.2 (by rw [HB3.out]; exact HDI.out) he
            obtain ⟨rfl, _⟩ := he
            have HS7 := Lib.hid hS7
            have HBN7 := Lib.hid hbn7
            clear hS7 hbn7
            go_wp2
            go_roundw
            case rel => exact Lib.hid ⟨_, _, HS7.out⟩
            case measure =>
              have h1 := cursOf_at HS7.out.here
              have h2 := HS7.out.inv.le
              have h5 := HBN7.out
              rw [HB3.out] at h5
              rw [h1, HCU.out]
              have h3 := HBN.out
              have h4 := HP2'.out
              omega
          · obtain ⟨⟨v, rfl⟩, hnr, _, hg7⟩ := he
            have HNR := Lib.hid (show _ ∧ _ from ⟨HS5.out.pre.fail HRS.out.2.2 (.nf (by rw [HB3.out]; exact HDI.out) hnr), HS5.out.below.trans (below_of_grown hg7 HS5.out.age hbs)⟩)
            clear hnr hg7
            go_wp2
            first
              | go_ret2
              | (try rw [Exit.noGoto_ret]; go_ret2)
            exact ⟨.inr ⟨v, rfl, HNR.out.1⟩, HNR.out.2⟩
      · as_aux_lemma =>
          rw [hc]
          have HC := Lib.hid hc
          clear hc
          go_wp2_with fail
          refine (lexNumber F s a L3 w.heap.size ts.length xs _ HS5.out.here HS5.out.inv (by omega) q HQ.out fp fn' fc HFS.out HX.out (own_ne HX.out HS5.out.here (by decide)) hbs (by omega) (by rw [HRS.out.1, HC.out]; omega) HFA.out HT5.out ga0 ga1).mono ?_
          rintro e w7 hpost
          rcases hpost with he | he
          · obtain ⟨L', t, hS7, hbn7⟩ := HS5.out.num HX.out HTL.out HRS.out.2.2 (by rw [HB3.out]; exact HDI.out) he
            obtain ⟨rfl, _⟩ := he
            have HS7 := Lib.hid hS7
            have HBN7 := Lib.hid hbn7
            clear hS7 hbn7
            go_wp2
            go_roundw
            case rel => exact Lib.hid ⟨_, _, HS7.out⟩
            case measure =>
              have h1 := cursOf_at HS7.out.here
              have h2 := HS7.out.inv.le
              have h5 := HBN7.out
              rw [HB3.out] at h5
              rw [h1, HCU.out]
              have h3 := HBN.out
              have h4 := HP2'.out
              omega
          · obtain ⟨⟨v, rfl⟩, hnr, _, hg7⟩ := he
            have HNR := Lib.hid (show _ ∧ _ from ⟨HS5.out.pre.fail HRS.out.2.2 (.nf (by rw [HB3.out]; exact HDI.out) hnr), HS5.out.below.trans (below_of_grown hg7 HS5.out.age hbs)⟩)
            clear hnr hg7
            go_wp2
            first
              | go_ret2
              | (try rw [Exit.noGoto_ret]; go_ret2)
            exact ⟨.inr ⟨v, rfl, HNR.out.1⟩, HNR.out.2⟩
      · as_aux_lemma =>
          rw [hc]
          have HC := Lib.hid hc
          clear hc
          go_wp2_with fail
          refine (lexNumber F s a L3 w.heap.size ts.length xs _ HS5.out.here HS5.out.inv (by omega) q HQ.out fp fn' fc HFS.out HX.out (own_ne HX.out HS5.out.here (by decide)) hbs (by omega) (by rw [HRS.out.1, HC.out]; omega) HFA.out HT5.out ga0 ga1).mono ?_
          rintro e w7 hpost
          rcases hpost with he | he
          · obtain ⟨L', t, hS7, hbn7⟩ := HS5.out.num HX.out HTL.out HRS.out.2.2 (by rw [HB3.out]; exact HDI.out) he
            obtain ⟨rfl, _⟩ := he
            have HS7 := Lib.hid hS7
            have HBN7 := Lib.hid hbn7
            clear hS7 hbn7
            go_wp2
            go_roundw
            case rel => exact Lib.hid ⟨_, _, HS7.out⟩
            case measure =>
              have h1 := cursOf_at HS7.out.here
              have h2 := HS7.out.inv.le
              have h5 := HBN7.out
              rw [HB3.out] at h5
              rw [h1, HCU.out]
              have h3 := HBN.out
              have h4 := HP2'.out
              omega
          · obtain ⟨⟨v, rfl⟩, hnr, _, hg7⟩ := he
            have HNR := Lib.hid (show _ ∧ _ from ⟨HS5.out.pre.fail HRS.out.2.2 (.nf (by rw [HB3.out]; exact HDI.out) hnr), HS5.out.below.trans (below_of_grown hg7 HS5.out.age hbs)⟩)
            clear hnr hg7
            go_wp2
            first
              | go_ret2
              | (try rw [Exit.noGoto_ret]; go_ret2)
            exact ⟨.inr ⟨v, rfl, HNR.out.1⟩, HNR.out.2⟩
      · as_aux_lemma =>
          rw [hc]
          have HC := Lib.hid hc
          clear hc
          go_wp2_with fail
          refine (lexNumber F s a L3 w.heap.size ts.length xs _ HS5.out.here HS5.out.inv (by omega) q HQ.out fp fn' fc HFS.out HX.out (own_ne HX.out HS5.out.here (by decide)) hbs (by omega) (by rw [HRS.out.1, HC.out]; omega) HFA.out HT5.out ga0 ga1).mono ?_
          rintro e w7 hpost
          rcases hpost with he | he
          · obtain ⟨L', t, hS7, hbn7⟩ := HS5.out.num HX.out HTL.out HRS.out.2.2 (by rw [HB3.out]; exact HDI.out) he
            obtain ⟨rfl, _⟩ := he
            have HS7 := Lib.hid hS7
            have HBN7 := Lib.hid hbn7
            clear hS7 hbn7
            go_wp2
            go_roundw
            case rel => exact Lib.hid ⟨_, _, HS7.out⟩
            case measure =>
              have h1 := cursOf_at HS7.out.here
              have h2 := HS7.out.inv.le
              have h5 := HBN7.out
              rw [HB3.out] at h5
              rw [h1, HCU.out]
              have h3 := HBN.out
              have h4 := HP2'.out
              omega
          · obtain ⟨⟨v, rfl⟩, hnr, _, hg7⟩ := he
            have HNR := Lib.hid (show _ ∧ _ from ⟨HS5.out.pre.fail HRS.out.2.2 (.nf (by rw [HB3.out]; exact HDI.out) hnr), HS5.out.below.trans (below_of_grown hg7 HS5.out.age hbs)⟩)
            clear hnr hg7
            go_wp2
            first
              | go_ret2
              | (try rw [Exit.noGoto_ret]; go_ret2)
            exact ⟨.inr ⟨v, rfl, HNR.out.1⟩, HNR.out.2⟩
      · as_aux_lemma =>
          rw [hc]
          have HC := Lib.hid hc
          clear hc
          go_wp2_with fail
          refine (lexNumber F s a L3 w.heap.size ts.length xs _ HS5.out.here HS5.out.inv (by omega) q HQ.out fp fn' fc HFS.out HX.out (own_ne HX.out HS5.out.here (by decide)) hbs (by omega) (by rw [HRS.out.1, HC.out]; omega) HFA.out HT5.out ga0 ga1).mono ?_
          rintro e w7 hpost
          rcases hpost with he | he
          · obtain ⟨L', t, hS7, hbn7⟩ := HS5.out.num HX.out HTL.out HRS.out.2.2 (by rw [HB3.out]; exact HDI.out) he
            obtain ⟨rfl, _⟩ := he
            have HS7 := Lib.hid hS7
            have HBN7 := Lib.hid hbn7
            clear hS7 hbn7
            go_wp2
            go_roundw
            case rel => exact Lib.hid ⟨_, _, HS7.out⟩
            case measure =>
              have h1 := cursOf_at HS7.out.here
              have h2 := HS7.out.inv.le
              have h5 := HBN7.out
              rw [HB3.out] at h5
              rw [h1, HCU.out]
              have h3 := HBN.out
              have h4 := HP2'.out
              omega
          · obtain ⟨⟨v, rfl⟩, hnr, _, hg7⟩ := he
            have HNR := Lib.hid (show _ ∧ _ from ⟨HS5.out.pre.fail HRS.out.2.2 (.nf (by rw [HB3.out]; exact HDI.out) hnr), HS5.out.below.trans (below_of_grown hg7 HS5.out.age hbs)⟩)
            clear hnr hg7
            go_wp2
            first
              | go_ret2
              | (try rw [Exit.noGoto_ret]; go_ret2)
            exact ⟨.inr ⟨v, rfl, HNR.out.1⟩, HNR.out.2⟩
      · as_aux_lemma =>
          rw [hc]
          have HC := Lib.hid hc
          clear hc
          go_wp2_with fail
          refine (lexNumber F s a L3 w.heap.size ts.length xs _ HS5.out.here HS5.out.inv (by omega) q HQ.out fp fn' fc HFS.out HX.out (own_ne HX.out HS5.out.here (by decide)) hbs (by omega) (by rw [HRS.out.1, HC.out]; omega) HFA.out HT5.out ga0 ga1).mono ?_
          rintro e w7 hpost
          rcases hpost with he | he
          · obtain ⟨L', t, hS7, hbn7⟩ := HS5.out.num HX.out HTL.out HRS.out.2.2 (by rw [HB3.out]; exact HDI.out) he
            obtain ⟨rfl, _⟩ := he
            have HS7 := Lib.hid hS7
            have HBN7 := Lib.hid hbn7
            clear hS7 hbn7
            go_wp2
            go_roundw
            case rel => exact Lib.hid ⟨_, _, HS7.out⟩
            case measure =>
              have h1 := cursOf_at HS7.out.here
              have h2 := HS7.out.inv.le
              have h5 := HBN7.out
              rw [HB3.out] at h5
              rw [h1, HCU.out]
              have h3 := HBN.out
              have h4 := HP2'.out
              omega
          · obtain ⟨⟨v, rfl⟩, hnr, _, hg7⟩ := he
            have HNR := Lib.hid (show _ ∧ _ from ⟨HS5.out.pre.fail HRS.out.2.2 (.nf (by rw [HB3.out]; exact HDI.out) hnr), HS5.out.below.trans (below_of_grown hg7 HS5.out.age hbs)⟩)
            clear hnr hg7
            go_wp2
            first
              | go_ret2
              | (try rw [Exit.noGoto_ret]; go_ret2)
            exact ⟨.inr ⟨v, rfl, HNR.out.1⟩, HNR.out.2⟩

end Lx
end Go.Proofs.YthohpccmleodpaaFmt
