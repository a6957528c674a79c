/-
  The walk of FnGetSnippetIsTextBetweenPositions.
-/
import Derived.Test.YtmieljdnfjpheaaDoorSnipB
import Derived.Test.YtmieljdnfjpheaaDoorSrcW
import Derived.Test.YtmieljdnfjpheaaDoorVUtfA
namespace Go.Proofs.YtmieljdnfjpheaaDoor.fnGetSnippetIsTextBetweenPositions
open Go Go.RowKit Go.Shelf
open Go.Proofs.YtmieljdnfjpheaaDoor.fnBuildSourceLineCountEveryString (countNL)

theorem bytes_ok (s : ByteArray) (a b c d : Int) (w : World) (h : s.size ≤ 1048576) :
    Calls Tryd.prog 11 #[.string s, .int .i64 a, .int .i64 b, .int .i64 c, .int .i64 d] w fun e w' => e = .returned (.bool true) ∧ w = w' := by
  go_enter Tryd.func11, Tryd.ntmps11
  go_wp2
  go_ret
  exact ⟨rfl, rfl⟩
theorem bytes_no (s : ByteArray) (a b c d : Int) (w : World) (hs : s.size ≤ maxLen) (h : 1048576 < s.size) :
    Calls Tryd.prog 11 #[.string s, .int .i64 a, .int .i64 b, .int .i64 c, .int .i64 d] w fun e w' => e = .returned (.bool false) ∧ w = w' := by
  unfold maxLen at hs
  go_enter Tryd.func11, Tryd.ntmps11
  go_wp2
  all_goals go_ret
  all_goals exact ⟨rfl, rfl⟩

set_option maxHeartbeats 3200000 in
set_option maxRecDepth 100000 in
theorem walk (s : ByteArray) (bl bc el ec : Int) (w : World) (hs : s.size ≤ maxLen) (_ : (Lit.int .i64 bl).wf = true) (_ : (Lit.int .i64 bc).wf = true) (_ : (Lit.int .i64 el).wf = true) (_ : (Lit.int .i64 ec).wf = true) :
    Calls Tryd.prog 4 #[.string s, .int .i64 bl, .int .i64 bc, .int .i64 el, .int .i64 ec] w fun e w' => e = .returned (.bool true) ∧ Below w.heap.size w w' := by
  by_cases hz : 1048576 < s.size
  · go_enter Tryd.func4, Tryd.ntmps4
    go_wp2_with (go_at_call 11; refine (bytes_no s bl bc el ec _ hs hz).mono ?_; rintro e w' ⟨rfl, rfl⟩)
    go_ret
    exact ⟨rfl, Below.refl _ _⟩
  have hz' : s.size ≤ 1048576 := by omega
  clear hs hz
  obtain ⟨T, hT⟩ : ∃ T : ByteArray, s ++ ⟨#[10]⟩ = T := ⟨_, rfl⟩
  have hTs : T.size ≤ 1048577 := by rw [← hT, snocT_size]; omega
  have HT := Lib.hid hT
  go_enter Tryd.func4, Tryd.ntmps4
  go_wp2_with fail
  refine (bytes_ok s bl bc el ec _ hz').mono ?_
  rintro e w' ⟨rfl, rfl⟩
  go_wp2_with fail
  refine (zzValidUTF8 s (by omega) _).mono ?_
  rintro e w' ⟨b, rfl, hbv, rfl⟩
  have HBV := Lib.hid hbv
  clear hbv
  cases b
  · go_wp2
    go_ret
    exact ⟨rfl, Below.refl _ _⟩
  have hv := HBV.out rfl
  have htl := tlines hv HT.out
  have hnl := nlc_all htl hv
  have HTL := Lib.hid htl
  have HNL := Lib.hid hnl
  have hnn : (srcLines s).length ≤ 1048577 := by have := nlc_le T T.size; omega
  clear HBV hnl hv htl
  go_wp2_with fail
  refine (countNL T (by omega) _).mono ?_
  rw [HNL.out]
  rintro e w' ⟨rfl, rfl⟩
  by_cases c1 : bl < 1
  · go_wp2
    all_goals go_ret
    all_goals exact ⟨rfl, Below.refl _ _⟩
  have b1 : decide (bl < 1) = false := decide_eq_false c1
  by_cases c2 : el < bl
  · go_wp2
    all_goals go_ret
    all_goals exact ⟨rfl, Below.refl _ _⟩
  have b2 : decide (el < bl) = false := decide_eq_false c2
  by_cases c3 : ((srcLines s).length : Int) < el
  · go_wp2
    all_goals go_ret
    all_goals exact ⟨rfl, Below.refl _ _⟩
  have b3 : decide (((srcLines s).length : Int) < el) = false := decide_eq_false c3
  obtain ⟨BL, rfl⟩ := Int.eq_ofNat_of_zero_le (show 0 ≤ bl by omega)
  obtain ⟨EL, rfl⟩ := Int.eq_ofNat_of_zero_le (show 0 ≤ el by omega)
  have h1 : 1 ≤ BL := by omega
  have h2 : BL ≤ EL := by omega
  have h3 : EL ≤ (srcLines s).length := by omega
  clear c1 c2 c3
  by_cases c4 : bc < 1
  · go_wp2
    all_goals go_ret
    all_goals exact ⟨rfl, Below.refl _ _⟩
  have b4 : decide (bc < 1) = false := decide_eq_false c4
  obtain ⟨BC, rfl⟩ := Int.eq_ofNat_of_zero_le (show 0 ≤ bc by omega)
  have h4 : 1 ≤ BC := by omega
  clear c4
  have hll1 : llen s (BL - 1) ≤ 1048577 := by have := lst_next (s := s) (k := BL - 1) (by omega); have := lst_le HTL.out (BL - 1 + 1); omega
  have hll2 : llen s (EL - 1) ≤ 1048577 := by have := lst_next (s := s) (k := EL - 1) (by omega); have := lst_le HTL.out (EL - 1 + 1); omega
  go_wp2_with fail
  refine (lineLen HTL.out (by omega) (BL - 1) (by omega) _ (by omega) _).mono ?_
  rintro e w' ⟨rfl, rfl⟩
  by_cases c5 : llen s (BL - 1) < BC
  · go_wp2
    all_goals go_ret
    all_goals exact ⟨rfl, Below.refl _ _⟩
  have b5 : decide (llen s (BL - 1) < BC) = false := decide_eq_false c5
  have h5 : BC ≤ llen s (BL - 1) := by omega
  clear c5
  by_cases c6 : ec < 1
  · go_wp2
    all_goals go_ret
    all_goals exact ⟨rfl, Below.refl _ _⟩
  have b6 : decide (ec < 1) = false := decide_eq_false c6
  obtain ⟨EC, rfl⟩ := Int.eq_ofNat_of_zero_le (show 0 ≤ ec by omega)
  have h6 : 1 ≤ EC := by omega
  clear c6
  go_wp2_with fail
  refine (lineLen HTL.out (by omega) (EL - 1) (by omega) _ (by omega) _).mono ?_
  rintro e w' ⟨rfl, rfl⟩
  by_cases c7 : llen s (EL - 1) + 1 < EC
  · go_wp2
    all_goals go_ret
    all_goals exact ⟨rfl, Below.refl _ _⟩
  have b7 : decide ((llen s (EL - 1) : Int) + 1 < EC) = false := decide_eq_false (by omega)
  have h7 : EC ≤ llen s (EL - 1) + 1 := by omega
  clear c7
  go_wp2_with fail
  refine (buildSource ⟨#[]⟩ s (by omega) _).mono ?_
  rintro e w1 ⟨N, v, rfl, hN, hNb, hown, hb⟩
  obtain ⟨g, cap, rfl, hg1, hg2⟩ := hown.form (by omega)
  have hsrc : SrcAt w1 w.heap.size N s := ⟨_, g, cap, hNb, hown⟩
  have HSRC := Lib.hid hsrc
  have HBL := Lib.hid hb
  clear hsrc hown hNb hb
  obtain ⟨OB, hOB⟩ : ∃ OB, OB = lstart s (BL - 1) + BC - 1 := ⟨_, rfl⟩
  obtain ⟨OE, hOE⟩ : ∃ OE, OE = lstart s (EL - 1) + EC - 1 := ⟨_, rfl⟩
  have HARGS : Hid (SnipArgs s T BL BC EL EC OB OE) := Lib.hid ⟨HTL.out, h1, h2, h3, h4, h5, h6, h7, hOB, hOE⟩
  have hOBi : (lstart s (BL - 1) : Int) + (BC : Int) - 1 = (OB : Int) := by omega
  have hOEi : (lstart s (EL - 1) : Int) + (EC : Int) - 1 = (OE : Int) := by omega
  have hlB := lst_le HTL.out (BL - 1)
  have hlE := lst_le HTL.out (EL - 1)
  have hOEle : OE ≤ T.size := by
    have := lst_next (s := s) (k := EL - 1) (by omega)
    have := lst_le HTL.out (EL - 1 + 1)
    omega
  have HOB := Lib.hid hOBi
  have HOE := Lib.hid hOEi
  clear hOB hOE hOBi hOEi
  have hsz1 := HBL.out.size
  go_wp2_with fail
  refine (getSnippet s T _ w.heap.size N (HSRC.out.below (((Below.refl _ w1).alloc (Nat.le_refl _) _).alloc (by simp) _)) _ _ BL BC EL EC OB OE HARGS.out (by omega)).mono ?_
  rintro e w2 ⟨rfl, hb2⟩
  have hb2' : Below w.heap.size w w2 := HBL.out.trans ((((Below.refl _ w1).alloc hsz1 _).alloc (by simp; omega) _).trans (hb2.mono (by simp; omega)))
  clear hb2 HSRC
  go_wp2_with fail
  refine (lineStart HTL.out (by omega) (BL - 1) (by omega) _ (by omega) _).mono ?_
  rintro e w3 ⟨rfl, rfl⟩
  have hOBi := HOB.out
  go_wp2_with fail
  refine (lineStart HTL.out (by omega) (EL - 1) (by omega) _ (by omega) _).mono ?_
  rintro e w3 ⟨rfl, rfl⟩
  have hOEi := HOE.out
  by_cases hlt : OE < OB
  · rw [seg_none T (by omega)]
    go_wp2
    go_ret
    exact ⟨rfl, hb2'⟩
  · have hd : decide (OE < OB) = false := decide_eq_false hlt
    rw [seg_extract]
    go_wp2
    go_ret
    exact ⟨rfl, hb2'⟩

end Go.Proofs.YtmieljdnfjpheaaDoor.fnGetSnippetIsTextBetweenPositions
