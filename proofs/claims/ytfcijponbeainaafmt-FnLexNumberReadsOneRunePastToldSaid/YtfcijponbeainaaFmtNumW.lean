/-
  The walk of FnLexNumberReadsOneRunePast.
-/
import Derived.Test.YtfcijponbeainaaFmtNumZ
import Derived.Test.YtfcijponbeainaaFmtLaidTabs
namespace Go.Proofs.YtfcijponbeainaaFmt.fnLexNumberReadsOneRunePast
open Go Go.RowKit Go.Shelf Go.Extern.Stop Go.Stop

theorem bytes_ok (s t : ByteArray) (w : World) (h : s.size + t.size ≤ 1048576) :
    Calls Tryf.prog 14 #[.string s, .string t] w fun e w' => e = .returned (.bool true) ∧ w = w' := by
  have h1 : ¬ 1048576 < s.size := by omega
  have h2 : ¬ 1048576 < t.size := by omega
  have h3 : ¬ (1048576 : Int) < (s.size : Int) + (t.size : Int) := by omega
  go_enter Tryf.func14, Tryf.ntmps14
  go_wp2
  go_ret
  exact ⟨rfl, rfl⟩
theorem bytes_no (s t : ByteArray) (w : World) (hs : s.size ≤ maxLen) (ht : t.size ≤ maxLen) (h : 1048576 < s.size + t.size) :
    Calls Tryf.prog 14 #[.string s, .string t] w fun e w' => e = .returned (.bool false) ∧ w = w' := by
  unfold maxLen at hs ht
  by_cases h1 : 1048576 < s.size
  · go_enter Tryf.func14, Tryf.ntmps14
    go_wp2
    all_goals go_ret
    all_goals exact ⟨rfl, rfl⟩
  · by_cases h2 : 1048576 < t.size
    · go_enter Tryf.func14, Tryf.ntmps14
      go_wp2
      all_goals go_ret
      all_goals exact ⟨rfl, rfl⟩
    · have h3 : (1048576 : Int) < (s.size : Int) + (t.size : Int) := by omega
      go_enter Tryf.func14, Tryf.ntmps14
      go_wp2
      all_goals go_ret
      all_goals exact ⟨rfl, rfl⟩

theorem get0 (u : ByteArray) (h : 0 < u.size) : u.data.toList[0]? = some (u[0]'h) := by
  rw [List.getElem?_eq_getElem (show 0 < u.data.toList.length from h)]
  rfl
/-- The new text: cut behind the first byte that was not taken, and t. -/
structure Cut (s t u : ByteArray) (k : Nat) : Prop where
  run : numRun 0 u.data.toList 0 = some k
  buf : numBuf u 0 k = numBuf s 0 k
  first : byteAt u 0 = byteAt s 0
  pos : 0 < u.size
theorem cut_of {s t : ByteArray} {k : Nat} (hr : numRun 0 s.data.toList 0 = some k) (hk : k < s.size) : Cut s t (s.extract 0 (k + 1) ++ t) k := by
  have hl : (s.extract 0 (k + 1) ++ t).data.toList = s.data.toList.take (k + 1) ++ t.data.toList := by
    simp [ByteArray.data_append, ByteArray.data_extract]
  have hsl : s.data.toList.length = s.size := rfl
  have hpos : 0 < (s.extract 0 (k + 1) ++ t).size := by
    have : (s.extract 0 (k + 1) ++ t).size = (s.extract 0 (k + 1) ++ t).data.toList.length := rfl
    rw [this, hl, List.length_append, List.length_take]
    omega
  refine ⟨?_, ?_, ?_, hpos⟩
  · rw [hl]
    exact numRun_past s.data.toList 0 0 k t.data.toList hr (by rw [hsl]; omega)
  · unfold numBuf
    rw [hl]
    congr 1
    rw [List.drop_zero, List.drop_zero, List.take_append_of_le_length (by rw [List.length_take]; omega), List.take_take, Nat.min_eq_left (by omega)]
  · rw [← byte_of_get _ 0 hpos, ← byte_of_get s 0 (by omega)]
    have e1 := get0 (s.extract 0 (k + 1) ++ t) hpos
    have e2 := get0 s (by omega)
    rw [hl, List.getElem?_append_left (by rw [List.length_take]; omega), List.getElem?_take_of_lt (by omega), e2] at e1
    rw [Option.some.inj e1]

set_option maxHeartbeats 3200000 in
set_option maxRecDepth 100000 in
theorem walk (F : Interp) (s t : ByteArray) (w : World) (hF : F.answers w.tape) (hs : s.size ≤ maxLen) (ht : t.size ≤ maxLen) (hL : laidMetH Tryf.prog Rows.fnLexNumberReadsOneRunePastRow.laid w) :
    Calls Tryf.prog 4 #[.string s, .string t] w fun e w' => e = .returned (.bool true) ∧ Below w.heap.size w w' := by
  have hT := tabs_of_laid (by kernel_rfl) (by simp [Rows.fnLexNumberReadsOneRunePastRow]) (by simp [Rows.fnLexNumberReadsOneRunePastRow]) hL
  clear hL
  by_cases hz : 1048576 < s.size + t.size
  · clear hT hF
    go_enter Tryf.func4, Tryf.ntmps4
    go_wp2_with (go_at_call 14; refine (bytes_no s t _ hs ht hz).mono ?_; rintro e w' ⟨rfl, rfl⟩)
    go_ret
    exact ⟨rfl, Below.refl _ _⟩
  have hz' : s.size + t.size ≤ 1048576 := by omega
  have z1 : ¬ 1048576 < s.size := by omega
  have z2 : ¬ 1048576 < t.size := by omega
  clear hs ht hz
  by_cases h0 : s.size = 0
  · clear hT hF
    have h0' : ((s.size : Int) == 0) = true := beq_iff_eq.2 (by omega)
    clear h0
    go_enter Tryf.func4, Tryf.ntmps4
    go_wp2_with (go_at_call 14; refine (bytes_ok s t _ hz').mono ?_; rintro e w' ⟨rfl, rfl⟩)
    go_ret
    exact ⟨rfl, Below.refl _ _⟩
  have h0' : ((s.size : Int) == 0) = false := beq_eq_false_iff_ne.2 (by omega)
  have hp0 : 0 < s.size := by omega
  have hbyte := byte_of_get s 0 hp0
  clear h0
  cases hdg : dgz (byteAt s 0)
  · have HD : Hid (dgz (((s[0]'hp0).toNat : Nat) : Int) = false) := Lib.hid (by rw [hbyte]; exact hdg)
    clear hT hF hbyte hdg
    go_enter Tryf.func4, Tryf.ntmps4
    go_wp2_with (first | (go_at_call 14; refine (bytes_ok s t _ hz').mono ?_; rintro e w' ⟨rfl, rfl⟩) | (go_at_call 6; refine (zzDigit _ _).mono ?_; rw [HD.out]; rintro e w' ⟨rfl, rfl⟩))
    go_ret
    exact ⟨rfl, Below.refl _ _⟩
  have HD : Hid (dgz (((s[0]'hp0).toNat : Nat) : Int) = true) := Lib.hid (by rw [hbyte]; exact hdg)
  have hdd := dgz_t.1 hdg
  have HDD : Hid (48 ≤ byteAt s 0 ∧ byteAt s 0 ≤ 57) := Lib.hid (by omega)
  obtain ⟨g0, g1⟩ := tabs_lt hT
  have HT := Lib.hid hT
  have HF := Lib.hid hF
  clear hT hF hbyte hdg hdd
  go_enter Tryf.func4, Tryf.ntmps4
  go_wp2_with fail
  refine (bytes_ok s t _ hz').mono ?_
  rintro e w' ⟨rfl, rfl⟩
  go_wp2_with fail
  refine (zzDigit _ _).mono ?_
  rw [HD.out]
  rintro e w' ⟨rfl, rfl⟩
  go_wp2_with fail
  refine (zzMake164 s (by omega) _).mono ?_
  rintro e w1 ⟨N, M, rfl, hN, hAt, hb⟩
  have hs1 := hb.size
  have HT1 := Lib.hid (tabs_below HT.out hb g0 g1)
  have HF1 : Hid (F.answers w1.tape) := Lib.hid (by rw [hb.tape]; exact HF.out)
  have HA := Lib.hid hAt
  have HB1 := Lib.hid hb
  clear hAt hb
  go_wp2_with fail
  refine (freshNum F s w w1 N M hN HA.out hs1 hp0 (by omega) HDD.out HF1.out HT1.out (by omega) (by omega)).mono ?_
  rintro e w2 ⟨⟨rfl, hok⟩ | ⟨rfl, _⟩, hb2, hN2⟩
  case inr =>
    have hbb := HB1.out.trans hb2
    have HBB := Lib.hid hbb
    clear hbb hb2
    go_wp2
    go_ret
    exact ⟨rfl, HBB.out⟩
  case inl =>
    obtain ⟨k, L2, g, cap, hrun, hk, hL2, hbn, htk, hcd, hck⟩ := hok
    have HRUN := Lib.hid hrun
    have HL2 := Lib.hid hL2
    have HBN := Lib.hid hbn
    have HTK := Lib.hid htk
    have HCD := Lib.hid hcd
    have HBB := Lib.hid (HB1.out.trans hb2)
    have hs2 : w.heap.size ≤ w2.heap.size := HBB.out.size
    clear hrun hL2 hbn htk hcd hck hb2 HA HT1 HF1
    go_wp2_with fail
    refine (zzPos164 N L2 _ HL2.out).mono ?_
    rintro e w3 ⟨rfl, rfl⟩
    rw [HBN.out]
    by_cases hks : k = s.size
    · have q1 : (s.size : Int) ≤ (k : Int) := by omega
      go_wp2
      go_ret
      exact ⟨rfl, HBB.out⟩
    have q1 : ¬ (s.size : Int) ≤ (k : Int) := by omega
    have hk1 : k < s.size := by omega
    have HC := Lib.hid (cut_of (t := t) HRUN.out hk1)
    have q2 : (0 : Int) ≤ (k : Int) + 1 := by omega
    have q3 : (k : Int) + 1 ≤ (s.size : Int) := by omega
    have hx : ((k : Int) + 1).toNat = k + 1 := by omega
    clear hks
    go_wp2_with fail
    refine (zzData164 N g 1 cap 0 _ rfl L2 _ HL2.out HTK.out (by omega) (by omega) _ HCD.out).mono ?_
    rintro e w3 ⟨rfl, rfl⟩
    go_wp2_with fail
    obtain ⟨u, hu⟩ : ∃ u, u = s.extract 0 (k + 1) ++ t := ⟨_, rfl⟩
    have husz : u.size ≤ 3000000 := by
      rw [hu, ByteArray.size_append, ByteArray.size_extract]
      omega
    rw [← hu]
    have HC2 : Hid (Cut s t u k) := Lib.hid (by rw [hu]; exact HC.out)
    clear hu HC
    refine (zzMake164 u (by omega) _).mono ?_
    rintro e w3 ⟨N2, M2, rfl, hN3, hAt3, hb3⟩
    have hs3 := hb3.size
    have HB3 := Lib.hid (HBB.out.trans (hb3.mono hs2))
    have HT3 := Lib.hid (tabs_below HT.out HB3.out g0 g1)
    have HF3 : Hid (F.answers w3.tape) := Lib.hid (by rw [HB3.out.tape]; exact HF.out)
    have HA3 := Lib.hid hAt3
    clear hAt3 hb3
    go_wp2_with fail
    refine (freshNum F u w w3 N2 M2 (by omega) HA3.out (by omega) HC2.out.pos (by omega) (by rw [HC2.out.first]; exact HDD.out) HF3.out HT3.out (by omega) (by omega)).mono ?_
    rintro e w4 ⟨⟨rfl, hok⟩ | ⟨rfl, hno⟩, hb4, hN4⟩
    case inr => exact absurd (HC2.out.run.symm.trans hno.1) (by simp)
    obtain ⟨k2, L3, g3, cap3, hrun3, hk3, hL3, hbn3, htk3, hcd3, hck3⟩ := hok
    obtain rfl : k = k2 := Option.some.inj (HC2.out.run.symm.trans hrun3)
    rw [HC2.out.buf] at hcd3
    have HL3 := Lib.hid hL3
    have HBN3 := Lib.hid hbn3
    have HTK3 := Lib.hid htk3
    have HCD3 := Lib.hid hcd3
    have HB4 := Lib.hid (HB3.out.trans hb4)
    clear hL3 hbn3 htk3 hcd3 hck3 hrun3 hb4 HA3 HT3 HF3
    generalize (⟨(numBuf s 0 k).toArray⟩ : ByteArray) = d at HCD HCD3
    go_wp2_with fail
    refine (zzCount164 N2 L3 _ HL3.out _ _ _ HTK3.out).mono ?_
    rintro e w5 ⟨rfl, rfl⟩
    go_wp2_with fail
    refine (zzData164 N2 g3 1 cap3 0 _ rfl L3 _ HL3.out HTK3.out (by omega) (by omega) _ HCD3.out).mono ?_
    rintro e w5 ⟨rfl, rfl⟩
    go_wp2_with fail
    refine (zzPos164 N2 L3 _ HL3.out).mono ?_
    rintro e w5 ⟨rfl, rfl⟩
    rw [HBN3.out]
    go_wp2
    go_ret
    exact ⟨rfl, HB4.out⟩

end Go.Proofs.YtfcijponbeainaaFmt.fnLexNumberReadsOneRunePast
