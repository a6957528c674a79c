/-
  The walk of FnEmitTokenExact.
-/
import Derived.Test.YtgcgafkedhohcaaDoorLaidTabs
import Derived.Test.YtgcgafkedhohcaaDoorShimsE
namespace Go.Proofs.YtgcgafkedhohcaaDoor.fnEmitTokenExact
open Go Go.RowKit Go.Shelf

theorem bytes_ok (s : ByteArray) (j k d : Int) (w : World) (h : s.size ≤ 1048576) :
    Calls Tryd.prog 32 #[.string s, .int .i64 j, .int .i64 k, .int .i64 d] w fun e w' => e = .returned (.bool true) ∧ w = w' := by
  go_enter Tryd.func32, Tryd.ntmps32
  go_wp2
  go_ret
  exact ⟨rfl, rfl⟩
theorem bytes_no (s : ByteArray) (j k d : Int) (w : World) (hs : s.size ≤ maxLen) (h : 1048576 < s.size) :
    Calls Tryd.prog 32 #[.string s, .int .i64 j, .int .i64 k, .int .i64 d] w fun e w' => e = .returned (.bool false) ∧ w = w' := by
  unfold maxLen at hs
  go_enter Tryd.func32, Tryd.ntmps32
  go_wp2
  all_goals go_ret
  all_goals exact ⟨rfl, rfl⟩

set_option maxRecDepth 100000 in
theorem early (s : ByteArray) (j k d : Int) (w : World) (hs : s.size ≤ maxLen) (h : 1048576 < s.size ∨ j < 0 ∨ 65536 < j ∨ k < 0 ∨ 65536 < k ∨ d < 0 ∨ 36 < d) :
    Calls Tryd.prog 6 #[.string s, .int .i64 j, .int .i64 k, .int .i64 d] w fun e w' => e = .returned (.bool true) ∧ Below w.heap.size w w' := by
  by_cases hz : 1048576 < s.size
  · go_enter Tryd.func6, Tryd.ntmps6
    go_wp2_with (go_at_call 32; refine (bytes_no s j k d _ hs hz).mono ?_; rintro e w' ⟨rfl, rfl⟩)
    go_ret
    exact ⟨rfl, Below.refl _ _⟩
  have hz' : s.size ≤ 1048576 := by omega
  clear hs
  by_cases h1 : j < 0 ∨ 65536 < j ∨ k < 0 ∨ 65536 < k
  · by_cases e1 : j < 0
    · clear h h1
      go_enter Tryd.func6, Tryd.ntmps6
      go_wp2_with (go_at_call 32; refine (bytes_ok s j k d _ hz').mono ?_; rintro e w' ⟨rfl, rfl⟩)
      all_goals go_ret
      all_goals exact ⟨rfl, Below.refl _ _⟩
    have b1 : decide (j < 0) = false := decide_eq_false e1
    by_cases e2 : 65536 < j
    · clear h h1
      go_enter Tryd.func6, Tryd.ntmps6
      go_wp2_with (go_at_call 32; refine (bytes_ok s j k d _ hz').mono ?_; rintro e w' ⟨rfl, rfl⟩)
      all_goals go_ret
      all_goals exact ⟨rfl, Below.refl _ _⟩
    have b2 : decide (65536 < j) = false := decide_eq_false e2
    by_cases e3 : k < 0
    · clear h h1
      go_enter Tryd.func6, Tryd.ntmps6
      go_wp2_with (go_at_call 32; refine (bytes_ok s j k d _ hz').mono ?_; rintro e w' ⟨rfl, rfl⟩)
      all_goals go_ret
      all_goals exact ⟨rfl, Below.refl _ _⟩
    have b3 : decide (k < 0) = false := decide_eq_false e3
    have e4 : 65536 < k := by omega
    clear h h1
    go_enter Tryd.func6, Tryd.ntmps6
    go_wp2_with (go_at_call 32; refine (bytes_ok s j k d _ hz').mono ?_; rintro e w' ⟨rfl, rfl⟩)
    all_goals go_ret
    all_goals exact ⟨rfl, Below.refl _ _⟩
  · have b1 : decide (j < 0) = false := decide_eq_false (by omega)
    have b2 : decide (65536 < j) = false := decide_eq_false (by omega)
    have b3 : decide (k < 0) = false := decide_eq_false (by omega)
    have b4 : decide (65536 < k) = false := decide_eq_false (by omega)
    by_cases e1 : d < 0
    · clear h h1
      go_enter Tryd.func6, Tryd.ntmps6
      go_wp2_with (go_at_call 32; refine (bytes_ok s j k d _ hz').mono ?_; rintro e w' ⟨rfl, rfl⟩)
      all_goals go_ret
      all_goals exact ⟨rfl, Below.refl _ _⟩
    have b5 : decide (d < 0) = false := decide_eq_false e1
    have e2 : 36 < d := by omega
    clear h h1
    go_enter Tryd.func6, Tryd.ntmps6
    go_wp2_with (go_at_call 32; refine (bytes_ok s j k d _ hz').mono ?_; rintro e w' ⟨rfl, rfl⟩)
    all_goals go_ret
    all_goals exact ⟨rfl, Below.refl _ _⟩

set_option maxHeartbeats 3200000 in
set_option maxRecDepth 100000 in
theorem walk (s : ByteArray) (j k d : Int) (w : World) (hs : s.size ≤ maxLen) (_ : (Lit.int .i64 j).wf = true) (_ : (Lit.int .i64 k).wf = true) (_ : (Lit.int .i64 d).wf = true) (hL : laidMetH Tryd.prog Rows.fnEmitTokenExactRow.laid w) :
    Calls Tryd.prog 6 #[.string s, .int .i64 j, .int .i64 k, .int .i64 d] w fun e w' => e = .returned (.bool true) ∧ Below w.heap.size w w' := by
  have hT := tabs_of_laid (by kernel_rfl) (by simp [Rows.fnEmitTokenExactRow]) (by simp [Rows.fnEmitTokenExactRow]) hL
  clear hL
  by_cases hz : 1048576 < s.size ∨ j < 0 ∨ 65536 < j ∨ k < 0 ∨ 65536 < k ∨ d < 0 ∨ 36 < d
  · exact early s j k d w hs hz
  have hz' : s.size ≤ 1048576 := by omega
  obtain ⟨n, rfl⟩ := Int.eq_ofNat_of_zero_le (show 0 ≤ j by omega)
  obtain ⟨m, rfl⟩ := Int.eq_ofNat_of_zero_le (show 0 ≤ k by omega)
  have hn : n ≤ 65536 := by omega
  have hm : m ≤ 65536 := by omega
  have hd0 : 0 ≤ d := by omega
  have hd1 : d ≤ 36 := by omega
  have b1 : decide ((n : Int) < 0) = false := decide_eq_false (by omega)
  have b2 : decide ((65536 : Int) < n) = false := decide_eq_false (by omega)
  have b3 : decide ((m : Int) < 0) = false := decide_eq_false (by omega)
  have b4 : decide ((65536 : Int) < m) = false := decide_eq_false (by omega)
  have b5 : decide (d < 0) = false := decide_eq_false (by omega)
  have b6 : decide (36 < d) = false := decide_eq_false (by omega)
  clear hz hs
  obtain ⟨g0, g1⟩ := tabs_lt hT
  have HT := Lib.hid hT
  clear hT
  go_enter Tryd.func6, Tryd.ntmps6
  go_wp2_with fail
  refine (bytes_ok s n m d _ hz').mono ?_
  rintro e w' ⟨rfl, rfl⟩
  go_wp2_with fail
  refine (zzMake s (by omega) _).mono ?_
  rintro e w1 ⟨N, M, rfl, hN, hAt, hb⟩
  have hs1 := hb.size
  have HT1 := Lib.hid (tabs_below HT.out hb g0 g1)
  have HA := Lib.hid hAt
  clear hAt
  go_wp2
  go_loopw [10] (fun i wr => ∃ q : Nat, q ≤ n ∧ i = .int .i64 q ∧ Hid (LexAt wr N ((initSt ⟨#[]⟩ ⟨#[]⟩ s (.pointer (some ⟨M, 0, none⟩))).steps q)) ∧ Below w.heap.size w wr ∧ Hid (Lib.Utf8Tabs 0 1 wr)) (fun i _ => n - (intOf i).toNat)
  case atStart => exact ⟨0, Nat.zero_le _, rfl, HA, hb, HT1⟩
  case round =>
    obtain ⟨q, hq, rfl, HAt, hbw, HTw⟩ := hrel
    have hinv := (inv_init ⟨#[]⟩ ⟨#[]⟩ s (.pointer (some ⟨M, 0, none⟩))).steps q
    generalize hL : (initSt ⟨#[]⟩ ⟨#[]⟩ s (.pointer (some ⟨M, 0, none⟩))).steps q = L at HAt hinv
    have HL := Lib.hid hL
    have HI := Lib.hid hinv
    have hswr := hbw.size
    clear hL hinv
    by_cases hlt : q < n
    · go_wp2_with fail
      refine (zzNext N L _ HAt.out (by rw [HI.out.inp]; omega) (HI.out.lnb (by omega)).1 (HI.out.lnb (by omega)).2 HTw.out).mono ?_
      rintro e w2 ⟨rfl, ha2, hg2⟩
      have HA2 := Lib.hid ha2
      clear ha2
      go_wp2
      go_roundw
      case rel =>
        refine ⟨q + 1, by omega, by go_num, ?_, hbw.trans (below_of_grown hg2 hN (by omega)), ?_⟩
        · have := HA2.out
          rw [← HL.out] at this
          exact this
        · exact tabs_kept HTw.out hg2 (by omega) (by omega) (by omega) (by omega)
      case measure => simp [intOf]; omega
    · obtain rfl : q = n := by omega
      have hle := HI.out.le
      have hls := HI.out.lsb
      go_wp2_with fail
      refine (zzReset N L wr HAt.out (by omega) hls.1 hls.2).mono ?_
      rintro e w3 ⟨rfl, h3, hg3⟩
      have H3 := Lib.hid h3
      clear h3
      go_wp2_with fail
      refine (zzPos N L.reset _ H3.out).mono ?_
      rintro e w4 ⟨rfl, m4, rfl⟩
      obtain ⟨_, _, _, k4, k5, k6, _⟩ := steps_keeps (initSt ⟨#[]⟩ ⟨#[]⟩ s (.pointer (some ⟨M, 0, none⟩))) q
      rw [HL.out] at k4 k5 k6
      have er1 : L.reset.ts = L.bn := rfl
      have er2 : L.reset.tl = 1 + (nlc s L.bn : Int) := HI.out.ln
      have er3 : L.reset.tc = (L.bn : Int) - nle s L.bn + 1 := by show (L.bn : Int) - L.ls + 1 = _; rw [HI.out.ls]
      have HIR : Hid (Inv s L.reset) := Lib.hid ⟨HI.out.inp, HI.out.le, HI.out.ln, HI.out.ls⟩
      have hRb : L.reset.bn = L.bn := rfl
      rw [show L.reset.bn = L.bn from rfl, show L.reset.ln = L.ln from rfl, show L.reset.ls = L.ls from rfl]
      have kR4 : L.reset.src = .pointer (some ⟨M, 0, none⟩) := k4
      have kR5 : L.reset.toks = .slice none 0 0 := k5
      have kR6 : L.reset.fod = .slice none 0 0 := k6
      generalize L.reset = R at H3 HIR hRb er1 er2 er3 kR4 kR5 kR6
      have ER := Lib.hid (And.intro er1 (And.intro er2 er3))
      have KR := Lib.hid (And.intro kR4 (And.intro kR5 kR6))
      have HT3 := Lib.hid (tabs_kept HTw.out hg3 (by omega) (by omega) (by omega) (by omega))
      have hb3 : Below w.heap.size w (w3.drewN m4) := drewN_below (hbw.trans (below_of_grown hg3 hN (by omega))) m4
      clear k4 k5 k6 kR4 kR5 kR6 er1 er2 er3 hg3 hbw HAt HTw
      go_wp2
      go_loopw [14] (fun i wr => ∃ r : Nat, r ≤ m ∧ i = .int .i64 r ∧ Hid (LexAt wr N (R.steps r)) ∧ Below w.heap.size w wr ∧ Hid (Lib.Utf8Tabs 0 1 wr)) (fun i _ => m - (intOf i).toNat)
      case atStart => exact ⟨0, Nat.zero_le _, rfl, H3, hb3, HT3⟩
      case round =>
        obtain ⟨r, hr, rfl, HAt, hbw, HTw⟩ := hrel
        have hinv := HIR.out.steps r
        generalize hL2 : R.steps r = L2 at HAt hinv
        have HL2 := Lib.hid hL2
        have HI2 := Lib.hid hinv
        have hswr := hbw.size
        clear hL2 hinv
        by_cases hlt : r < m
        · go_wp2_with fail
          refine (zzNext N L2 _ HAt.out (by rw [HI2.out.inp]; omega) (HI2.out.lnb (by omega)).1 (HI2.out.lnb (by omega)).2 HTw.out).mono ?_
          rintro e w5 ⟨rfl, ha2, hg2⟩
          have HA2 := Lib.hid ha2
          clear ha2
          go_wp2
          go_roundw
          case rel =>
            refine ⟨r + 1, by omega, by go_num, ?_, hbw.trans (below_of_grown hg2 hN (by omega)), ?_⟩
            · have := HA2.out
              rw [← HL2.out] at this
              exact this
            · exact tabs_kept HTw.out hg2 (by omega) (by omega) (by omega) (by omega)
          case measure => simp [intOf]; omega
        · obtain rfl : r = m := by omega
          have hle2 := HI2.out.le
          have hls2 := HI2.out.lsb
          obtain ⟨hf1, hf2⟩ := steps_far HIR.out r
          rw [HL2.out] at hf1 hf2
          have hbb : L.bn ≤ L2.bn := by omega
          clear hf1 hf2
          go_wp2_with fail
          refine (zzPos N L2 _ HAt.out).mono ?_
          rintro e w6 ⟨rfl, m6, rfl⟩
          obtain ⟨j4, j5, j6⟩ := KR.out
          obtain ⟨i1, i2, i3⟩ := ER.out
          obtain ⟨_, _, _, s4, s5, s6, s7, s8, s9⟩ := steps_keeps R r
          rw [HL2.out] at s4 s5 s6 s7 s8 s9
          rw [j4] at s4
          rw [j5] at s5
          rw [j6] at s6
          rw [i1] at s7
          rw [i2] at s8
          rw [i3] at s9
          have S4 := Lib.hid s4
          have S5 := Lib.hid s5
          have S6 := Lib.hid s6
          have S7 := Lib.hid s7
          have S8 := Lib.hid s8
          have S9 := Lib.hid s9
          clear j4 j5 j6 i1 i2 i3 s4 s5 s6 s7 s8 s9
          go_wp2_with fail
          refine (zzEmitToken N L2 d w.heap.size 0 [] (wr.drewN m6) HAt.out _ S4.out _ _ _ S6.out (by rw [S5.out]; exact World.ownsRow_nil _ _ _ _) (by rw [S5.out]; simp [Value.ownBlock]) (by simpa using hswr) (by omega) (by omega) hls2.1 hls2.2 L.bn S7.out hbb (by rw [HI2.out.inp]; exact hle2) hd0 hd1).mono ?_
          rintro e w7 ⟨rfl, g, cap, M2, hL7, hown7, hga, hg7, hk7⟩
          have hrow : ∀ j, j < 11 → w7.cell? ⟨g, 0 * 11 + j, none⟩ = (tokCells (.slice none 0 0) (s.extract L.bn L2.bn) ⟨#[]⟩ ⟨#[]⟩ (.pointer (some ⟨M, 0, none⟩)) L2.im (1 + (nlc s L.bn : Int)) ((L.bn : Int) - nle s L.bn + 1) (1 + (nlc s L2.bn : Int)) ((L2.bn : Int) - nle s L2.bn + 1) d)[j]? := by
            intro j hj
            have hc := hown7.cellAt (0 * 11 + j) (by omega)
            rw [S6.out, S4.out, HI2.out.inp, S8.out, S9.out] at hc
            unfold LexSt.loc1 LexSt.loc2 at hc
            rw [HI2.out.ln, HI2.out.ls] at hc
            simpa using hc
          have HROW := Lib.hid hrow
          have hb7 : Below w.heap.size w w7 := (drewN_below hbw m6).trans (Kept.below hk7 (fun i hi => by
            rcases hi with hi | hi
            · rw [hi]; exact hN
            · rw [S5.out] at hi; simp [Value.ownBlock] at hi) (by simpa using hswr))
          have t1 : ({ L2 with toks := .slice (some ⟨g, 0, none⟩) (0 + 1) cap, fod := .slice (some ⟨M2, 0, none⟩) 0 0 } : LexSt).reset.toks = .slice (some ⟨g, 0, none⟩) 1 cap := rfl
          have t2 : ({ L2 with toks := .slice (some ⟨g, 0, none⟩) (0 + 1) cap, fod := .slice (some ⟨M2, 0, none⟩) 0 0 } : LexSt).reset.fod = .slice (some ⟨M2, 0, none⟩) 0 0 := rfl
          have t3 : ({ L2 with toks := .slice (some ⟨g, 0, none⟩) (0 + 1) cap, fod := .slice (some ⟨M2, 0, none⟩) 0 0 } : LexSt).reset.ts = L2.bn := rfl
          have t4 : ({ L2 with toks := .slice (some ⟨g, 0, none⟩) (0 + 1) cap, fod := .slice (some ⟨M2, 0, none⟩) 0 0 } : LexSt).reset.tl = 1 + (nlc s L2.bn : Int) := HI2.out.ln
          have t5 : ({ L2 with toks := .slice (some ⟨g, 0, none⟩) (0 + 1) cap, fod := .slice (some ⟨M2, 0, none⟩) 0 0 } : LexSt).reset.tc = (L2.bn : Int) - nle s L2.bn + 1 := by show (L2.bn : Int) - L2.ls + 1 = _; rw [HI2.out.ls]
          have t6 : ({ L2 with toks := .slice (some ⟨g, 0, none⟩) (0 + 1) cap, fod := .slice (some ⟨M2, 0, none⟩) 0 0 } : LexSt).reset.bn = L2.bn := rfl
          have t7 : ({ L2 with toks := .slice (some ⟨g, 0, none⟩) (0 + 1) cap, fod := .slice (some ⟨M2, 0, none⟩) 0 0 } : LexSt).reset.ln = L2.ln := rfl
          have t8 : ({ L2 with toks := .slice (some ⟨g, 0, none⟩) (0 + 1) cap, fod := .slice (some ⟨M2, 0, none⟩) 0 0 } : LexSt).reset.ls = L2.ls := rfl
          generalize ({ L2 with toks := .slice (some ⟨g, 0, none⟩) (0 + 1) cap, fod := .slice (some ⟨M2, 0, none⟩) 0 0 } : LexSt).reset = L7 at hL7 t1 t2 t3 t4 t5 t6 t7 t8
          have H7 := Lib.hid hL7
          have T1 := Lib.hid t1
          have T2 := Lib.hid t2
          have T3 := Lib.hid (And.intro t3 (And.intro t4 t5))
          have T6 := Lib.hid (And.intro t6 (And.intro t7 t8))
          clear hL7 t1 t2 t3 t4 t5 t6 t7 t8 hrow hown7 hk7 hg7
          go_wp2_with fail
          refine (zzTokensLen N L7 _ (by exact H7.out) _ _ _ T1.out).mono ?_
          rintro e w8 ⟨rfl, rfl⟩
          go_wp2_with fail
          refine (zzTokenAt N g 1 cap 0 L7 _ (by exact H7.out) T1.out (by omega) _ _ _ _ _ _ _ _ _ _ _ _ _ (by exact HROW.out) (by omega)).mono ?_
          rintro e w8 ⟨rfl, hb8⟩
          have hsz7 := H7.out.lt
          have hg7 : g < w7.heap.size := World.block_lt_of_cell? w7 ⟨g, 0 * 11 + 0, none⟩ (HROW.out 0 (by omega))
          have H8 := Lib.hid (show LexAt w8 N L7 from (hb8.block N hsz7).trans H7.out)
          have HROW8 := Lib.hid (fun j (hj : j < 11) => (hb8.cell (p := ⟨g, 0 * 11 + j, none⟩) hg7).trans (HROW.out j hj))
          have hb8' : Below w.heap.size w w8 := hb7.trans (hb8.mono (by have := hb7.size; omega))
          clear hb8 hb7 HROW H7 hsz7 hg7
          go_wp2_with fail
          refine (zzTokenLoc N g 1 cap 0 L7 _ (by exact H8.out) T1.out (by omega) _ _ _ _ _ _ _ _ _ _ _ _ _ (by exact HROW8.out) (by omega)).mono ?_
          rintro e w9 ⟨rfl, hb9⟩
          have H9 := Lib.hid (show LexAt w9 N L7 from (hb9.block N H8.out.lt).trans H8.out)
          have hb9' : Below w.heap.size w w9 := hb8'.trans (hb9.mono (by have := hb8'.size; omega))
          clear hb9 hb8' HROW8 H8
          go_wp2_with fail
          refine (lineCol s L.bn hle (by omega) _).mono ?_
          rintro e w9 ⟨rfl, rfl⟩
          go_wp2_with fail
          refine (lineCol s L2.bn hle2 (by omega) _).mono ?_
          rintro e w9 ⟨rfl, rfl⟩
          go_wp2_with fail
          refine (zzTokenStart N L7 _ H9.out).mono ?_
          rintro e w10 ⟨rfl, m10, rfl⟩
          rw [T3.out.1, T3.out.2.1, T3.out.2.2]
          go_wp2_with fail
          refine (zzPos N L7 (w9.drewN m10) H9.out).mono ?_
          rintro e w11 ⟨rfl, m11, rfl⟩
          rw [T6.out.1, T6.out.2.1, T6.out.2.2]
          go_wp2_with fail
          refine (zzFodderLen N L7 _ (by exact H9.out) _ _ _ T2.out).mono ?_
          rintro e w11 ⟨rfl, rfl⟩
          go_wp2
          go_ret
          exact ⟨rfl, drewN_below hb9' _⟩

end Go.Proofs.YtgcgafkedhohcaaDoor.fnEmitTokenExact
