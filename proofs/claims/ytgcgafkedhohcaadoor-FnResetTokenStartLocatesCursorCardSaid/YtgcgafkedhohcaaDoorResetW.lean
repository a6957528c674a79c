/-
  The walk of FnResetTokenStartLocatesCursor.
-/
import Derived.Test.YtgcgafkedhohcaaDoorLaidTabs
namespace Go.Proofs.YtgcgafkedhohcaaDoor.fnResetTokenStartLocatesCursor
open Go Go.RowKit Go.Shelf

theorem bytes_ok (s : ByteArray) (k : Int) (w : World) (h : s.size ≤ 1048576) :
    Calls Tryd.prog 17 #[.string s, .int .i64 k] w fun e w' => e = .returned (.bool true) ∧ w = w' := by
  go_enter Tryd.func17, Tryd.ntmps17
  go_wp2
  go_ret
  exact ⟨rfl, rfl⟩
theorem bytes_no (s : ByteArray) (k : Int) (w : World) (hs : s.size ≤ maxLen) (h : 1048576 < s.size) :
    Calls Tryd.prog 17 #[.string s, .int .i64 k] w fun e w' => e = .returned (.bool false) ∧ w = w' := by
  unfold maxLen at hs
  go_enter Tryd.func17, Tryd.ntmps17
  go_wp2
  all_goals go_ret
  all_goals exact ⟨rfl, rfl⟩

set_option maxHeartbeats 3200000 in
set_option maxRecDepth 100000 in
theorem walk (s : ByteArray) (k : Int) (w : World) (hs : s.size ≤ maxLen) (_ : (Lit.int .i64 k).wf = true) (hL : laidMetH Tryd.prog Rows.fnResetTokenStartLocatesCursorRow.laid w) :
    Calls Tryd.prog 4 #[.string s, .int .i64 k] w fun e w' => e = .returned (.bool true) ∧ Below w.heap.size w w' := by
  have hT := tabs_of_laid (by kernel_rfl) (by simp [Rows.fnResetTokenStartLocatesCursorRow]) (by simp [Rows.fnResetTokenStartLocatesCursorRow]) hL
  clear hL
  by_cases hz : 1048576 < s.size
  · clear hT
    go_enter Tryd.func4, Tryd.ntmps4
    go_wp2_with (go_at_call 17; refine (bytes_no s k _ hs hz).mono ?_; rintro e w' ⟨rfl, rfl⟩)
    go_ret
    exact ⟨rfl, Below.refl _ _⟩
  have hz' : s.size ≤ 1048576 := by omega
  clear hs
  by_cases h0 : k < 0
  · clear hT
    go_enter Tryd.func4, Tryd.ntmps4
    go_wp2_with (go_at_call 17; refine (bytes_ok s k _ hz').mono ?_; rintro e w' ⟨rfl, rfl⟩)
    go_ret
    exact ⟨rfl, Below.refl _ _⟩
  by_cases h1 : 65536 < k
  · clear hT
    have h0' : decide (k < 0) = false := decide_eq_false (by omega)
    go_enter Tryd.func4, Tryd.ntmps4
    go_wp2_with (go_at_call 17; refine (bytes_ok s k _ hz').mono ?_; rintro e w' ⟨rfl, rfl⟩)
    go_ret
    exact ⟨rfl, Below.refl _ _⟩
  obtain ⟨n, rfl⟩ := Int.eq_ofNat_of_zero_le (show 0 ≤ k by omega)
  have hn : n ≤ 65536 := by omega
  have h0' : decide ((n : Int) < 0) = false := decide_eq_false (by omega)
  have h1' : decide ((65536 : Int) < n) = false := decide_eq_false (by omega)
  clear h0 h1 hz
  obtain ⟨g0, g1⟩ := tabs_lt hT
  have HT := Lib.hid hT
  clear hT
  go_enter Tryd.func4, Tryd.ntmps4
  go_wp2_with fail
  refine (bytes_ok s n _ hz').mono ?_
  rintro e w' ⟨rfl, rfl⟩
  go_wp2_with fail
  refine (zzMake s (by omega) _).mono ?_
  rintro e w1 ⟨N, M, rfl, hN, hAt, hb⟩
  have hs1 := hb.size
  have HT1 := Lib.hid (tabs_below HT.out hb g0 g1)
  have HA := Lib.hid hAt
  clear hAt
  go_wp2
  go_loopw [6] (fun i wr => ∃ j : Nat, j ≤ n ∧ i = .int .i64 j ∧ Hid (LexAt wr N ((initSt ⟨#[]⟩ ⟨#[]⟩ s (.pointer (some ⟨M, 0, none⟩))).steps j)) ∧ Below w.heap.size w wr ∧ Hid (Lib.Utf8Tabs 0 1 wr)) (fun i _ => n - (intOf i).toNat)
  case atStart => exact ⟨0, Nat.zero_le _, rfl, HA, hb, HT1⟩
  case round =>
    obtain ⟨j, hj, rfl, HAt, hbw, HTw⟩ := hrel
    have hinv := (inv_init ⟨#[]⟩ ⟨#[]⟩ s (.pointer (some ⟨M, 0, none⟩))).steps j
    generalize hL : (initSt ⟨#[]⟩ ⟨#[]⟩ s (.pointer (some ⟨M, 0, none⟩))).steps j = L at HAt hinv
    have HL := Lib.hid hL
    have HI := Lib.hid hinv
    have hswr := hbw.size
    clear hL hinv
    by_cases hlt : j < n
    · go_wp2_with fail
      refine (zzNext N L _ HAt.out (by rw [HI.out.inp]; omega) (HI.out.lnb (by omega)).1 (HI.out.lnb (by omega)).2 HTw.out).mono ?_
      rintro e w2 ⟨rfl, ha2, hg2⟩
      have HA2 := Lib.hid ha2
      clear ha2
      go_wp2
      go_roundw
      case rel =>
        refine ⟨j + 1, by omega, by go_num, ?_, hbw.trans (below_of_grown hg2 hN (by omega)), ?_⟩
        · have := HA2.out
          rw [← HL.out] at this
          exact this
        · exact tabs_kept HTw.out hg2 (by omega) (by omega) (by omega) (by omega)
      case measure => simp [intOf]; omega
    · obtain rfl : j = n := by omega
      obtain ⟨hf1, hf2⟩ := steps_far (inv_init ⟨#[]⟩ ⟨#[]⟩ s (.pointer (some ⟨M, 0, none⟩))) j
      rw [HL.out] at hf1 hf2
      have hle := HI.out.le
      have hls := HI.out.lsb
      have e0 : (initSt ⟨#[]⟩ ⟨#[]⟩ s (.pointer (some ⟨M, 0, none⟩))).bn = 0 := rfl
      rw [e0] at hf1 hf2
      have hf2' : L.bn ≤ 4 * j := by omega
      have hf1' : min j s.size ≤ L.bn := by omega
      clear hf1 hf2 e0
      obtain ⟨_, _, _, _, k5, k6, _⟩ := steps_keeps (initSt ⟨#[]⟩ ⟨#[]⟩ s (.pointer (some ⟨M, 0, none⟩))) j
      rw [HL.out] at k5 k6
      have K5 := Lib.hid k5
      have K6 := Lib.hid k6
      clear k5 k6
      have er1 : L.reset.ts = L.bn := rfl
      have er2 : L.reset.tl = 1 + (nlc s L.bn : Int) := HI.out.ln
      have er3 : L.reset.tc = (L.bn : Int) - nle s L.bn + 1 := by show (L.bn : Int) - L.ls + 1 = _; rw [HI.out.ls]
      have ER1 := Lib.hid er1
      have ER2 := Lib.hid er2
      have ER3 := Lib.hid er3
      clear er1 er2 er3
      have b1 : decide ((L.bn : Int) < 0) = false := decide_eq_false (by omega)
      have b2 : decide (s.size < L.bn) = false := decide_eq_false (by omega)
      have b4 : decide (4 * (j : Int) < L.bn) = false := decide_eq_false (by omega)
      go_wp2_with fail
      refine (zzPos N L _ HAt.out).mono ?_
      rintro e w2 ⟨rfl, m, rfl⟩
      by_cases hjs : s.size < j
      · have b3 : decide (L.bn < s.size) = false := decide_eq_false (by omega)
        clear hf1' hf2'
        go_wp2_with fail
        refine (zzReset N L (wr.drewN m) HAt.out (by omega) hls.1 hls.2).mono ?_
        rintro e w3 ⟨rfl, h3, hg3⟩
        have H3 := Lib.hid h3
        clear h3
        go_wp2_with fail
        refine (zzTokenStart N L.reset _ H3.out).mono ?_
        rintro e w4 ⟨rfl, m4, rfl⟩
        rw [ER1.out, ER2.out, ER3.out]
        go_wp2_with fail
        refine (lineCol s L.bn hle (by omega) _).mono ?_
        rintro e w4 ⟨rfl, rfl⟩
        go_wp2_with fail
        refine (zzPos N L.reset (w3.drewN m4) H3.out).mono ?_
        rintro e w5 ⟨rfl, m5, rfl⟩
        rw [show L.reset.bn = L.bn from rfl, show L.reset.ln = L.ln from rfl, show L.reset.ls = L.ls from rfl]
        go_wp2_with fail
        refine (zzFodderLen N L.reset _ (by exact H3.out) _ _ _ K6.out).mono ?_
        rintro e w6 ⟨rfl, rfl⟩
        go_wp2_with fail
        refine (zzTokensLen N L.reset _ (by exact H3.out) _ _ _ K5.out).mono ?_
        rintro e w6 ⟨rfl, rfl⟩
        go_wp2
        go_ret
        exact ⟨rfl, drewN_below ((drewN_below hbw m).trans (below_of_grown hg3 hN (by simp; omega))) _⟩
      · have b3 : decide (L.bn < j) = false := decide_eq_false (by omega)
        have b3' : decide (s.size < j) = false := decide_eq_false (by omega)
        clear hf1' hf2'
        go_wp2_with fail
        refine (zzReset N L (wr.drewN m) HAt.out (by omega) hls.1 hls.2).mono ?_
        rintro e w3 ⟨rfl, h3, hg3⟩
        have H3 := Lib.hid h3
        clear h3
        go_wp2_with fail
        refine (zzTokenStart N L.reset _ H3.out).mono ?_
        rintro e w4 ⟨rfl, m4, rfl⟩
        rw [ER1.out, ER2.out, ER3.out]
        go_wp2_with fail
        refine (lineCol s L.bn hle (by omega) _).mono ?_
        rintro e w4 ⟨rfl, rfl⟩
        go_wp2_with fail
        refine (zzPos N L.reset (w3.drewN m4) H3.out).mono ?_
        rintro e w5 ⟨rfl, m5, rfl⟩
        rw [show L.reset.bn = L.bn from rfl, show L.reset.ln = L.ln from rfl, show L.reset.ls = L.ls from rfl]
        go_wp2_with fail
        refine (zzFodderLen N L.reset _ (by exact H3.out) _ _ _ K6.out).mono ?_
        rintro e w6 ⟨rfl, rfl⟩
        go_wp2_with fail
        refine (zzTokensLen N L.reset _ (by exact H3.out) _ _ _ K5.out).mono ?_
        rintro e w6 ⟨rfl, rfl⟩
        go_wp2
        go_ret
        exact ⟨rfl, drewN_below ((drewN_below hbw m).trans (below_of_grown hg3 hN (by simp; omega))) _⟩

end Go.Proofs.YtgcgafkedhohcaaDoor.fnResetTokenStartLocatesCursor
