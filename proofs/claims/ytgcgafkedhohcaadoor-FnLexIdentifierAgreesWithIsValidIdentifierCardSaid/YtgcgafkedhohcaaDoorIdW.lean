/-
  The walk of FnLexIdentifierAgreesWithIsValidIdentifier.
-/
import Derived.Test.YtgcgafkedhohcaaDoorS64
import Derived.Test.YtgcgafkedhohcaaDoorIdB
import Derived.Test.YtgcgafkedhohcaaDoorLaidTabs
namespace Go.Proofs.YtgcgafkedhohcaaDoor.fnLexIdentifierAgreesWithIsValidIdentifier
open Go Go.RowKit Go.Shelf

theorem zzIDFirst (b : Int) (w : World) : Calls Tryd.prog 9 #[.int .u8 b] w fun e w' => e = .returned (.bool (idF b)) ∧ w = w' := by
  by_cases h1 : 97 ≤ b ∧ b ≤ 122
  · have e3 : idF b = true := by unfold idF isUp isLo; simp; omega
    rw [e3]
    obtain ⟨a1, a2⟩ := h1
    clear e3
    go_enter Tryd.func9, Tryd.ntmps9
    go_wp2
    go_ret
    exact ⟨rfl, rfl⟩
  by_cases h2 : 65 ≤ b ∧ b ≤ 90
  · have e3 : idF b = true := by unfold idF isUp isLo; simp; omega
    rw [e3]
    obtain ⟨a1, a2⟩ := h2
    have b1 : decide (97 ≤ b) = false := decide_eq_false (by omega)
    clear e3 h1
    go_enter Tryd.func9, Tryd.ntmps9
    go_wp2
    go_ret
    exact ⟨rfl, rfl⟩
  by_cases h3 : b = 95
  · subst h3
    go_enter Tryd.func9, Tryd.ntmps9
    go_wp2
    go_ret
    exact ⟨rfl, rfl⟩
  have e3 : idF b = false := by unfold idF isUp isLo; simp; omega
  rw [e3]
  have b5 : (b == 95) = false := beq_eq_false_iff_ne.2 h3
  by_cases c1 : 97 ≤ b
  · have b1 : decide (b ≤ 122) = false := decide_eq_false (by omega)
    have b3 : decide (b ≤ 90) = false := decide_eq_false (by omega)
    clear e3 h1 h2 h3
    go_enter Tryd.func9, Tryd.ntmps9
    go_wp2
    all_goals go_ret
    all_goals exact ⟨rfl, rfl⟩
  · have b1 : decide (97 ≤ b) = false := decide_eq_false (by omega)
    by_cases c2 : 65 ≤ b
    · have b3 : decide (b ≤ 90) = false := decide_eq_false (by omega)
      clear e3 h1 h2 h3
      go_enter Tryd.func9, Tryd.ntmps9
      go_wp2
      all_goals go_ret
      all_goals exact ⟨rfl, rfl⟩
    · have b3 : decide (65 ≤ b) = false := decide_eq_false (by omega)
      clear e3 h1 h2 h3
      go_enter Tryd.func9, Tryd.ntmps9
      go_wp2
      all_goals go_ret
      all_goals exact ⟨rfl, rfl⟩

theorem bytes_ok (s : ByteArray) (w : World) (h : s.size ≤ 1048576) :
    Calls Tryd.prog 8 #[.string s] w fun e w' => e = .returned (.bool true) ∧ w = w' := by
  go_enter Tryd.func8, Tryd.ntmps8
  go_wp2
  go_ret
  exact ⟨rfl, rfl⟩
theorem bytes_no (s : ByteArray) (w : World) (hs : s.size ≤ maxLen) (h : 1048576 < s.size) :
    Calls Tryd.prog 8 #[.string s] w fun e w' => e = .returned (.bool false) ∧ w = w' := by
  unfold maxLen at hs
  go_enter Tryd.func8, Tryd.ntmps8
  go_wp2
  all_goals go_ret
  all_goals exact ⟨rfl, rfl⟩

theorem byte_cut (s : ByteArray) (k j : Nat) (hk : k ≤ s.size) (hj : j < k) : byteAt (s.extract 0 k) j = byteAt s j := by
  have h1 : j < (s.extract 0 k).size := by rw [ByteArray.size_extract]; omega
  rw [← byte_of_get _ j h1, ← byte_of_get s j (by omega)]
  have : (s.extract 0 k)[j]'h1 = s[j]'(by omega) := by
    rw [ByteArray.getElem_extract]
    simp
  rw [this]
theorem cut_all (s : ByteArray) : s.extract 0 s.size = s := by
  apply ByteArray.ext
  rw [ByteArray.data_extract]
  simp

theorem run_pos {s : ByteArray} {k : Nat} (h : IdRun s 0 k) (h0 : 0 < s.size) (hf : idF (byteAt s 0) = true) : 1 ≤ k := by
  rcases Nat.eq_zero_or_pos k with rfl | hk
  · have hl := idC_low (idF_C hf)
    rcases h.stop with e | ⟨_, e⟩
    · omega
    · rw [decode_low s 0 h0 (by omega)] at e
      have := idF_C hf
      simp only [] at e
      rw [this] at e
      cases e
  · exact hk
theorem run_cut {s : ByteArray} {k : Nat} (h : IdRun s 0 k) : IdRun (s.extract 0 k) 0 k := by
  have hk := h.fit
  rw [Nat.zero_add] at hk
  have hsz : (s.extract 0 k).size = k := by rw [ByteArray.size_extract]; omega
  refine ⟨by omega, fun j hj => ?_, .inl (by omega)⟩
  rw [Nat.zero_add, byte_cut s k j hk hj]
  have := h.all j hj
  rwa [Nat.zero_add] at this

set_option maxRecDepth 100000 in
theorem zzLexIdent (s : ByteArray) (a : Nat) (L : LexSt) (B n : Nat) (xs : List Value) (w : World) (h : LexAt w a L) (hi : Inv s L) (hs : s.size ≤ 1099511627775) (p : Option Addr) (hp : L.src = .pointer p) (fp : Option Addr) (fn fc : Nat) (hf : L.fod = .slice fp fn fc)
    (hown : w.ownsRow B 65 11 L.toks n xs) (hne : L.toks.ownBlock ≠ some a) (hB : B ≤ w.heap.size) (hn : n ≤ 1000000000000) (t : Nat) (ht : L.ts = t) (ht1 : t ≤ L.bn) (hr : idF L.rune = true)
    (hT : Lib.Utf8Tabs 0 1 w) (ha0 : 0 ≠ a) (ha1 : 1 ≠ a) :
    Calls Tryd.prog 11 #[.pointer (some ⟨a, 0, none⟩)] w (IdPost w s a L B n xs t) := by
  have H := Lib.hid (lexIdentifier s a L B n xs w h hi hs p hp fp fn fc hf hown hne hB hn t ht ht1 hr hT ha0 ha1)
  clear h hown hi hp hf ht hr hT
  go_enter Tryd.func11, Tryd.ntmps11
  go_wp2_with fail
  refine H.out.mono ?_
  rintro e w1 ⟨rfl, H1⟩
  have HH1 := Lib.hid H1
  clear H1
  go_wp2
  go_end0
  exact ⟨rfl, HH1.out⟩

set_option maxHeartbeats 3200000 in
set_option maxRecDepth 100000 in
theorem walk (s : ByteArray) (w : World) (hs : s.size ≤ maxLen) (hL : laidMetH Tryd.prog Rows.fnLexIdentifierAgreesWithIsValidIdentifierRow.laid w) :
    Calls Tryd.prog 3 #[.string s] w fun e w' => e = .returned (.bool true) ∧ Below w.heap.size w w' := by
  have hT := tabs_of_laid (by kernel_rfl) (by simp [Rows.fnLexIdentifierAgreesWithIsValidIdentifierRow]) (by simp [Rows.fnLexIdentifierAgreesWithIsValidIdentifierRow]) hL
  clear hL
  by_cases hz : 1048576 < s.size
  · clear hT
    go_enter Tryd.func3, Tryd.ntmps3
    go_wp2_with (go_at_call 8; refine (bytes_no s _ hs hz).mono ?_; rintro e w' ⟨rfl, rfl⟩)
    go_ret
    exact ⟨rfl, Below.refl _ _⟩
  have hz' : s.size ≤ 1048576 := by omega
  clear hs hz
  by_cases h0 : s.size = 0
  · clear hT
    have h0' : ((s.size : Int) == 0) = true := beq_iff_eq.2 (by omega)
    clear h0
    go_enter Tryd.func3, Tryd.ntmps3
    go_wp2_with (go_at_call 8; refine (bytes_ok s _ hz').mono ?_; rintro e w' ⟨rfl, rfl⟩)
    go_ret
    exact ⟨rfl, Below.refl _ _⟩
  have h0' : ((s.size : Int) == 0) = false := beq_eq_false_iff_ne.2 (by omega)
  have hp0 : 0 < s.size := by omega
  have hbyte := byte_of_get s 0 hp0
  clear h0
  cases hidf : idF (byteAt s 0)
  · have HF : Hid (idF (((s[0]'hp0).toNat : Nat) : Int) = false) := Lib.hid (by rw [hbyte]; exact hidf)
    clear hT hbyte hidf
    go_enter Tryd.func3, Tryd.ntmps3
    go_wp2_with (first | (go_at_call 8; refine (bytes_ok s _ hz').mono ?_; rintro e w' ⟨rfl, rfl⟩) | (go_at_call 9; refine (zzIDFirst _ _).mono ?_; rw [HF.out]; rintro e w' ⟨rfl, rfl⟩))
    go_ret
    exact ⟨rfl, Below.refl _ _⟩
  have HF : Hid (idF (((s[0]'hp0).toNat : Nat) : Int) = true) := Lib.hid (by rw [hbyte]; exact hidf)
  have HF0 := Lib.hid hidf
  obtain ⟨g0, g1⟩ := tabs_lt hT
  have HT := Lib.hid hT
  clear hT hbyte hidf
  go_enter Tryd.func3, Tryd.ntmps3
  go_wp2_with fail
  refine (bytes_ok s _ hz').mono ?_
  rintro e w' ⟨rfl, rfl⟩
  go_wp2_with fail
  refine (zzIDFirst _ _).mono ?_
  rw [HF.out]
  rintro e w' ⟨rfl, rfl⟩
  go_wp2_with fail
  refine (zzMake164 s (by omega) _).mono ?_
  rintro e w1 ⟨N, M, rfl, hN, hAt, hb⟩
  have hs1 := hb.size
  have HT1 := Lib.hid (tabs_below HT.out hb g0 g1)
  have HA := Lib.hid hAt
  have hrune : idF (initSt ⟨#[]⟩ ⟨#[]⟩ s (.pointer (some ⟨M, 0, none⟩))).rune = true := by
    rw [LexSt.rune_in hp0]
    show idF (Utf8.decode s 0).1 = true
    rw [decode_low s 0 hp0 (by have := idC_low (idF_C HF0.out); omega)]
    exact HF0.out
  have HRU := Lib.hid hrune
  clear hAt hrune
  go_wp2_with fail
  refine (zzLexIdent s N (initSt ⟨#[]⟩ ⟨#[]⟩ s (.pointer (some ⟨M, 0, none⟩))) w.heap.size 0 [] w1 HA.out (inv_init _ _ _ _) (by omega) _ rfl none 0 0 rfl (World.ownsRow_nil _ _ _ _) (by simp [initSt, Value.ownBlock]) (by omega) (by omega) 0 rfl (Nat.zero_le _) HRU.out HT1.out (by omega) (by omega)).mono ?_
  rintro e w2 ⟨rfl, k, g, cap, M2, hrun, hL2, hown2, hbn2, hgN, hk2⟩
  have hrun0 : IdRun s 0 k := hrun
  have hk1 := run_pos hrun0 hp0 HF0.out
  have hkf : k ≤ s.size := by have := hrun0.fit; omega
  have hb2 : Below w.heap.size w w2 := hb.trans (Kept.below hk2 (fun i hi => by
    rcases hi with hi | hi
    · rw [hi]; exact hN
    · simp [initSt, Value.ownBlock] at hi) hs1)
  obtain ⟨d, hd⟩ : ∃ d, d = s.extract 0 k := ⟨_, rfl⟩
  have hcd : w2.cell? ⟨g, 0 * 11 + 1, none⟩ = some (.string d) := by
    rw [hown2.cellAt (0 * 11 + 1) (by omega), hd]
    show some (Value.string (s.extract 0 (0 + k))) = _
    rw [Nat.zero_add]
  have hck : w2.cell? ⟨g, 0 * 11 + 10, none⟩ = some (.int .i64 (kwKind d)) := by
    rw [hown2.cellAt (0 * 11 + 10) (by omega), hd]
    show some (Value.int .i64 (kwKind (s.extract 0 (0 + k)))) = _
    rw [Nat.zero_add]
  have hds : d.size = k := by rw [hd, ByteArray.size_extract]; omega
  have hrd : IdRun d 0 k := by rw [hd]; exact run_cut hrun0
  have hfd : idF (byteAt d 0) = true := by rw [hd, byte_cut s k 0 hkf (by omega)]; exact HF0.out
  have hcut : s.extract 0 k = d := hd.symm
  have hkd : k = s.size → kwKind d = kwKind s := fun e1 => by rw [hd, e1, cut_all]
  have hbn : ({ (initSt ⟨#[]⟩ ⟨#[]⟩ s (.pointer (some ⟨M, 0, none⟩))).steps k with toks := .slice (some ⟨g, 0, none⟩) (0 + 1) cap, fod := .slice (some ⟨M2, 0, none⟩) 0 0 } : LexSt).reset.bn = k := hbn2.trans (Nat.zero_add k)
  have htk : ({ (initSt ⟨#[]⟩ ⟨#[]⟩ s (.pointer (some ⟨M, 0, none⟩))).steps k with toks := .slice (some ⟨g, 0, none⟩) (0 + 1) cap, fod := .slice (some ⟨M2, 0, none⟩) 0 0 } : LexSt).reset.toks = .slice (some ⟨g, 0, none⟩) 1 cap := rfl
  generalize ({ (initSt ⟨#[]⟩ ⟨#[]⟩ s (.pointer (some ⟨M, 0, none⟩))).steps k with toks := .slice (some ⟨g, 0, none⟩) (0 + 1) cap, fod := .slice (some ⟨M2, 0, none⟩) 0 0 } : LexSt).reset = L2 at hL2 hbn htk
  have HL2 := Lib.hid hL2
  have HBN := Lib.hid hbn
  have HTK := Lib.hid htk
  have HCD := Lib.hid hcd
  have HCK := Lib.hid hck
  have HRD := Lib.hid hrd
  have HRS := Lib.hid hrun0
  have HFD := Lib.hid hfd
  have HKD := Lib.hid hkd
  have hdle : d.size ≤ 1099511627775 := by omega
  have HDS := Lib.hid hds
  clear hL2 hbn htk hcd hck hrd hrun hrun0 hfd hkd hown2 hk2 hbn2 hd hds HA HRU HT1 HT
  have b1 : decide ((k : Int) < 1) = false := decide_eq_false (by omega)
  have b2 : decide (s.size < k) = false := decide_eq_false (by omega)
  go_wp2_with fail
  refine (zzCount164 N L2 _ HL2.out _ _ _ HTK.out).mono ?_
  rintro e w3 ⟨rfl, rfl⟩
  go_wp2_with fail
  refine (zzPos164 N L2 _ HL2.out).mono ?_
  rintro e w3 ⟨rfl, rfl⟩
  rw [HBN.out]
  go_wp2_with fail
  refine (zzData164 N g 1 cap 0 _ rfl L2 _ HL2.out HTK.out (by omega) (by omega) d HCD.out).mono ?_
  rintro e w3 ⟨rfl, rfl⟩
  go_wp2_with fail
  refine (zzKind164 N g 1 cap 0 _ rfl L2 _ HL2.out HTK.out (by omega) (by omega) (kwKind d) HCK.out).mono ?_
  rintro e w3 ⟨rfl, rfl⟩
  have hvd : validB d k = (kwKind d == 10) := by unfold validB; rw [decide_eq_true HDS.out.symm]; rfl
  have HVD := Lib.hid hvd
  clear hvd
  by_cases hks : k = s.size
  · have hvs : validB s k = (kwKind d == 10) := by unfold validB; rw [decide_eq_true hks, HKD.out hks]; rfl
    have HVS := Lib.hid hvs
    have hkb : ((k : Int) == (s.size : Int)) = true := beq_iff_eq.2 (by omega)
    clear hvs hks
    cases hK : (kwKind d == 10)
    · have HKK := Lib.hid hK
      go_wp2_with fail
      refine (isValidId d k HRD.out hk1 HFD.out hdle _).mono ?_
      rw [HVD.out, HKK.out]
      rintro e w4 ⟨rfl, hb4⟩
      go_wp2_with fail
      refine (isValidId s k HRS.out hk1 HF0.out (by omega) _).mono ?_
      rw [HVS.out, HKK.out]
      rintro e w5 ⟨rfl, hb5⟩
      go_wp2
      go_ret
      exact ⟨rfl, hb2.trans ((hb4.trans (hb5.mono hb4.size)).mono hb2.size)⟩
    · have HKK := Lib.hid hK
      go_wp2_with fail
      refine (isValidId d k HRD.out hk1 HFD.out hdle _).mono ?_
      rw [HVD.out, HKK.out]
      rintro e w4 ⟨rfl, hb4⟩
      go_wp2_with fail
      refine (isValidId s k HRS.out hk1 HF0.out (by omega) _).mono ?_
      rw [HVS.out, HKK.out]
      rintro e w5 ⟨rfl, hb5⟩
      go_wp2
      go_ret
      exact ⟨rfl, hb2.trans ((hb4.trans (hb5.mono hb4.size)).mono hb2.size)⟩
  · have hvs : validB s k = false := by unfold validB; rw [decide_eq_false hks]; rfl
    have HVS := Lib.hid hvs
    have hkb : ((k : Int) == (s.size : Int)) = false := beq_eq_false_iff_ne.2 (by omega)
    clear hvs hks
    cases hK : (kwKind d == 10)
    · have HKK := Lib.hid hK
      go_wp2_with fail
      refine (isValidId d k HRD.out hk1 HFD.out hdle _).mono ?_
      rw [HVD.out, HKK.out]
      rintro e w4 ⟨rfl, hb4⟩
      go_wp2_with fail
      refine (isValidId s k HRS.out hk1 HF0.out (by omega) _).mono ?_
      rw [HVS.out]
      rintro e w5 ⟨rfl, hb5⟩
      go_wp2
      go_ret
      exact ⟨rfl, hb2.trans ((hb4.trans (hb5.mono hb4.size)).mono hb2.size)⟩
    · have HKK := Lib.hid hK
      go_wp2_with fail
      refine (isValidId d k HRD.out hk1 HFD.out hdle _).mono ?_
      rw [HVD.out, HKK.out]
      rintro e w4 ⟨rfl, hb4⟩
      go_wp2_with fail
      refine (isValidId s k HRS.out hk1 HF0.out (by omega) _).mono ?_
      rw [HVS.out]
      rintro e w5 ⟨rfl, hb5⟩
      go_wp2
      go_ret
      exact ⟨rfl, hb2.trans ((hb4.trans (hb5.mono hb4.size)).mono hb2.size)⟩

end Go.Proofs.YtgcgafkedhohcaaDoor.fnLexIdentifierAgreesWithIsValidIdentifier
