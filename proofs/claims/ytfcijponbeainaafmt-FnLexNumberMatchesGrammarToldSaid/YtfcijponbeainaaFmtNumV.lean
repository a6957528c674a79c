/-
  The walk of FnLexNumberMatchesGrammar.
-/
import Derived.Test.YtfcijponbeainaaFmtNumZ
import Derived.Test.YtfcijponbeainaaFmtNumE
import Derived.Test.YtfcijponbeainaaFmtLaidTabs
namespace Go.Proofs.YtfcijponbeainaaFmt.fnLexNumberMatchesGrammar
open Go Go.RowKit Go.Shelf Go.Extern.Stop Go.Stop

theorem bytes_ok (s : ByteArray) (w : World) (h : s.size ≤ 1048576) :
    Calls Tryf.prog 5 #[.string s] w fun e w' => e = .returned (.bool true) ∧ w = w' := by
  go_enter Tryf.func5, Tryf.ntmps5
  go_wp2
  go_ret
  exact ⟨rfl, rfl⟩
theorem bytes_no (s : ByteArray) (w : World) (hs : s.size ≤ maxLen) (h : 1048576 < s.size) :
    Calls Tryf.prog 5 #[.string s] w fun e w' => e = .returned (.bool false) ∧ w = w' := by
  unfold maxLen at hs
  go_enter Tryf.func5, Tryf.ntmps5
  go_wp2
  all_goals go_ret
  all_goals exact ⟨rfl, rfl⟩

theorem model_run {s : ByteArray} (h : 0 < s.size) (hd : dig (s[0]'h)) : numRun 0 s.data.toList 0 = numModel s.data.toList := by
  have e := drop_get s 0 h
  rw [List.drop_zero] at e
  rw [e]
  exact num_eq _ _ hd

set_option maxHeartbeats 3200000 in
set_option maxRecDepth 100000 in
theorem walk (F : Interp) (s : ByteArray) (w : World) (hF : F.answers w.tape) (hs : s.size ≤ maxLen) (hL : laidMetH Tryf.prog Rows.fnLexNumberMatchesGrammarRow.laid w) :
    Calls Tryf.prog 3 #[.string s] w fun e w' => e = .returned (.bool true) ∧ Below w.heap.size w w' := by
  have hT := tabs_of_laid (by kernel_rfl) (by simp [Rows.fnLexNumberMatchesGrammarRow]) (by simp [Rows.fnLexNumberMatchesGrammarRow]) hL
  clear hL
  by_cases hz : 1048576 < s.size
  · clear hT hF
    go_enter Tryf.func3, Tryf.ntmps3
    go_wp2_with (go_at_call 5; refine (bytes_no s _ hs hz).mono ?_; rintro e w' ⟨rfl, rfl⟩)
    go_ret
    exact ⟨rfl, Below.refl _ _⟩
  have hz' : s.size ≤ 1048576 := by omega
  clear hs hz
  by_cases h0 : s.size = 0
  · clear hT hF
    have h0' : ((s.size : Int) == 0) = true := beq_iff_eq.2 (by omega)
    clear h0
    go_enter Tryf.func3, Tryf.ntmps3
    go_wp2_with (go_at_call 5; refine (bytes_ok s _ hz').mono ?_; rintro e w' ⟨rfl, rfl⟩)
    go_ret
    exact ⟨rfl, Below.refl _ _⟩
  have h0' : ((s.size : Int) == 0) = false := beq_eq_false_iff_ne.2 (by omega)
  have hp0 : 0 < s.size := by omega
  have hbyte := byte_of_get s 0 hp0
  clear h0
  cases hdg : dgz (((s[0]'hp0).toNat : Nat) : Int)
  · have HD : Hid (dgz (((s[0]'hp0).toNat : Nat) : Int) = false) := Lib.hid hdg
    clear hT hF hbyte hdg
    go_enter Tryf.func3, Tryf.ntmps3
    go_wp2_with (first | (go_at_call 5; refine (bytes_ok s _ hz').mono ?_; rintro e w' ⟨rfl, rfl⟩) | (go_at_call 6; refine (zzDigit _ _).mono ?_; rw [HD.out]; rintro e w' ⟨rfl, rfl⟩))
    go_ret
    exact ⟨rfl, Below.refl _ _⟩
  have HD : Hid (dgz (((s[0]'hp0).toNat : Nat) : Int) = true) := Lib.hid hdg
  have HDG : Hid (dig (s[0]'hp0)) := Lib.hid ((dig_dgz _).2 hdg)
  have hdd := dgz_t.1 hdg
  have HDD : Hid (48 ≤ byteAt s 0 ∧ byteAt s 0 ≤ 57) := Lib.hid (by omega)
  obtain ⟨g0, g1⟩ := tabs_lt hT
  have HT := Lib.hid hT
  have HF := Lib.hid hF
  have HR := Lib.hid (model_run hp0 HDG.out)
  clear hT hF hbyte hdg hdd
  go_enter Tryf.func3, Tryf.ntmps3
  go_wp2_with fail
  refine (bytes_ok s _ hz').mono ?_
  rintro e w' ⟨rfl, rfl⟩
  go_wp2_with fail
  refine (zzDigit _ _).mono ?_
  rw [HD.out]
  rintro e w' ⟨rfl, rfl⟩
  go_wp2_with fail
  refine (zzModel s hp0 HDG.out (by omega) _).mono ?_
  rintro e w0 ⟨hm, hb0⟩
  have hs0 := hb0.size
  have HB0 := Lib.hid hb0
  clear hb0
  rcases hm with ⟨k, hk, hk1, hk2, rfl⟩ | ⟨hk, rfl⟩
  all_goals
    have HK := Lib.hid hk
    clear hk
    go_wp2_with fail
    refine (zzMake164 s (by omega) _).mono ?_
    rintro e w1 ⟨N, M, rfl, hN, hAt, hb⟩
    have hs1 := hb.size
    have HB1 := Lib.hid (HB0.out.trans (hb.mono hs0))
    have HT1 := Lib.hid (tabs_below HT.out HB1.out g0 g1)
    have HF1 : Hid (F.answers w1.tape) := Lib.hid (by rw [HB1.out.tape]; exact HF.out)
    have HA := Lib.hid hAt
    clear hAt hb
    go_wp2_with fail
    refine (freshNum F s w w1 N M (by omega) HA.out (by omega) hp0 (by omega) HDD.out HF1.out HT1.out (by omega) (by omega)).mono ?_
  · rintro e w2 ⟨⟨rfl, hok⟩ | ⟨rfl, hno⟩, hb2, hN2⟩
    case inr => exact absurd ((HR.out.trans HK.out).symm.trans hno.1) (by simp)
    obtain ⟨k2, L3, g3, cap3, hrun3, hk3, hL3, hbn3, htk3, hcd3, hck3⟩ := hok
    obtain rfl : k = k2 := Option.some.inj ((HR.out.trans HK.out).symm.trans hrun3)
    have HL3 := Lib.hid hL3
    have HBN3 := Lib.hid hbn3
    have HTK3 := Lib.hid htk3
    have HCD3 := Lib.hid hcd3
    have HCK3 := Lib.hid hck3
    have HB4 := Lib.hid (HB1.out.trans hb2)
    clear hL3 hbn3 htk3 hcd3 hck3 hrun3 hb2 HA HT1 HF1
    generalize (⟨(numBuf s 0 k).toArray⟩ : ByteArray) = d at HCD3
    go_wp2_with fail
    refine (zzCount164 N L3 _ HL3.out _ _ _ HTK3.out).mono ?_
    rintro e w5 ⟨rfl, rfl⟩
    go_wp2_with fail
    refine (zzData164 N g3 1 cap3 0 _ rfl L3 _ HL3.out HTK3.out (by omega) (by omega) _ HCD3.out).mono ?_
    rintro e w5 ⟨rfl, rfl⟩
    go_wp2_with fail
    refine (zzKind164 N g3 1 cap3 0 _ rfl L3 _ HL3.out HTK3.out (by omega) (by omega) _ HCK3.out).mono ?_
    rintro e w5 ⟨rfl, rfl⟩
    go_wp2_with fail
    refine (zzPos164 N L3 _ HL3.out).mono ?_
    rintro e w5 ⟨rfl, rfl⟩
    rw [HBN3.out]
    go_wp2
    go_ret
    exact ⟨rfl, HB4.out⟩
  · rintro e w2 ⟨⟨rfl, hok⟩ | ⟨rfl, hno⟩, hb2, hN2⟩
    case inl =>
      obtain ⟨k2, L3, g3, cap3, hrun3, _⟩ := hok
      exact absurd ((HR.out.trans HK.out).symm.trans hrun3) (by simp)
    obtain ⟨_, L3, hL3, htk3⟩ := hno
    have HL3 := Lib.hid hL3
    have HTK3 := Lib.hid htk3
    have HB4 := Lib.hid (HB1.out.trans hb2)
    clear hL3 htk3 hb2 HA HT1 HF1
    go_wp2_with fail
    refine (zzCount164 N L3 _ HL3.out _ _ _ HTK3.out).mono ?_
    rintro e w5 ⟨rfl, rfl⟩
    go_wp2
    go_ret
    exact ⟨rfl, HB4.out⟩

end Go.Proofs.YtfcijponbeainaaFmt.fnLexNumberMatchesGrammar
