/-
  FnTokenStringToAstEscapesCompose: the walk.
-/
import Derived.Test.YtgdlfcgboghadaaFmtEsW
namespace Go.Proofs.YtgdlfcgboghadaaFmt.fnTokenStringToAstEscapesCompose
open Go Go.RowKit Go.Shelf Go.Extern.Stop Go.Stop

set_option maxHeartbeats 3200000 in
set_option maxRecDepth 100000 in
theorem walk_ok (F : Interp) (ev : Value) (s t : ByteArray) (w : World) (hz : s.size + t.size ≤ 1048576) (hs : s.size ≤ 524288) (ht : t.size ≤ 524288) (hE : Env F ev w) :
    Calls Tryf.prog 3 #[.string s, .string t] w fun e w' => e = .returned (.bool true) ∧ Below w.heap.size w w' := by
  have HE := Lib.hid hE
  have HZ := Lib.hid (decide_eq_true hz)
  have hms : s.size ≤ maxLen := by unfold maxLen; omega
  have hmt : t.size ≤ maxLen := by unfold maxLen; omega
  have HB := Lib.hid (cBytes s t w hms hmt)
  have t1 : ¬ (524288 : Int) < (s.size : Int) := by omega
  have t2 : ¬ (524288 : Int) < (t.size : Int) := by omega
  obtain ⟨b1, h1⟩ : ∃ b, okAt s 0 = b := ⟨_, rfl⟩
  obtain ⟨b2, h2⟩ : ∃ b, okAt t 0 = b := ⟨_, rfl⟩
  obtain ⟨b3, h3⟩ : ∃ b, okAt (s ++ t) 0 = b := ⟨_, rfl⟩
  obtain ⟨u, hu⟩ : ∃ u, u = s ++ (⟨#[92]⟩ : ByteArray) := ⟨_, rfl⟩
  have HU := Lib.hid hu
  obtain ⟨b5, h5⟩ : ∃ b, okAt u 0 = b := ⟨_, rfl⟩
  have HX : Hid ((b1 = true → b2 = true → b3 = true) ∧ (b1 = true → b5 = false)) := Lib.hid (by
    refine ⟨fun e1 e2 => ?_, fun e1 => ?_⟩
    · rw [← h3]; exact ok_append (h1.trans e1) (h2.trans e2)
    · rw [← h5, hu]; exact ok_slash (h1.trans e1) rfl rfl)
  have H1 := Lib.hid h1
  have H2 := Lib.hid h2
  have H3 := Lib.hid h3
  have H5 := Lib.hid h5
  have hs4 : s.size ≤ 4000000 := by omega
  have ht4 : t.size ≤ 4000000 := by omega
  have HS3 : Hid ((s ++ t).size ≤ 4000000) := Lib.hid (by rw [sizeApp]; omega)
  have hus : u.size ≤ 4000000 := by rw [hu, sizeApp]; show s.size + 1 ≤ 4000000; omega
  have HS5 := Lib.hid hus
  clear h1 h2 h3 h5 hE hz hu hus
  go_enter Tryf.func3, Tryf.ntmps3
  go_wp2_with fail
  refine HB.out.mono ?_
  rw [HZ.out]
  rintro e w' ⟨rfl, rfl⟩
  go_wp2_with fail
  refine (zzDoubleB HE.out s _ _ hs4 b1 H1.out).mono ?_
  rintro e w1 ⟨rfl, hb1⟩
  have HB1 := Lib.hid hb1
  have HE1 := Lib.hid (HE.out.below hb1)
  clear hb1
  go_wp2_with fail
  refine (zzDoubleB HE1.out t _ _ ht4 b2 H2.out).mono ?_
  rintro e w2 ⟨rfl, hb2⟩
  have HB2 := Lib.hid (HB1.out.trans (hb2.mono HB1.out.size))
  have HE2 := Lib.hid (HE.out.below HB2.out)
  clear hb2
  go_wp2_with fail
  refine (zzDoubleB HE2.out (s ++ t) _ _ HS3.out b3 H3.out).mono ?_
  rintro e w3 ⟨rfl, hb3⟩
  have HB3 := Lib.hid (HB2.out.trans (hb3.mono HB2.out.size))
  have HE3 := Lib.hid (HE.out.below HB3.out)
  clear hb3
  go_wp2_with fail
  refine (zzSingleB HE3.out s _ _ hs4 b1 H1.out).mono ?_
  rintro e w4 ⟨rfl, hb4⟩
  have HB4 := Lib.hid (HB3.out.trans (hb4.mono HB3.out.size))
  have HE4 := Lib.hid (HE.out.below HB4.out)
  clear hb4
  go_wp2_with fail
  refine (oneSlash _).mono ?_
  rintro e w5 ⟨rfl, hb5⟩
  have HB5 := Lib.hid (HB4.out.trans (hb5.mono HB4.out.size))
  have HE5 := Lib.hid (HE.out.below HB5.out)
  clear hb5
  go_wp2_with fail
  rw [← HU.out]
  refine (zzDoubleB HE5.out u _ _ HS5.out b5 H5.out).mono ?_
  rintro e w6 ⟨rfl, hb6⟩
  have HB6 := Lib.hid (HB5.out.trans (hb6.mono HB5.out.size))
  obtain ⟨x1, x2⟩ := HX.out
  clear hb6 H1 H2 H3 H5
  cases b1
  · go_wp2
    go_ret
    exact ⟨rfl, HB6.out⟩
  · have x2' := x2 rfl
    subst x2'
    cases b2
    · go_wp2
      go_ret
      exact ⟨rfl, HB6.out⟩
    · have x1' := x1 rfl rfl
      subst x1'
      go_wp2
      go_ret
      exact ⟨rfl, HB6.out⟩

set_option maxRecDepth 100000 in
theorem walk (F : Interp) (s t : ByteArray) (w : World) (hF : F.answers w.tape) (hs : s.size ≤ maxLen) (ht : t.size ≤ maxLen) (hL : laidMetH Tryf.prog Rows.fnTokenStringToAstEscapesComposeRow.laid w) :
    Calls Tryf.prog 3 #[.string s, .string t] w fun e w' => e = .returned (.bool true) ∧ Below w.heap.size w w' := by
  obtain ⟨ev, hE⟩ := envOf hF (by kernel_rfl) (by simp [Rows.fnTokenStringToAstEscapesComposeRow]) (by simp [Rows.fnTokenStringToAstEscapesComposeRow]) (by simp [Rows.fnTokenStringToAstEscapesComposeRow]) hL
  clear hL
  by_cases hz : s.size + t.size ≤ 1048576
  · by_cases h1 : s.size ≤ 524288
    · by_cases h2 : t.size ≤ 524288
      · exact walk_ok F ev s t w hz h1 h2 hE
      · have HB := Lib.hid (cBytes s t w hs ht)
        have HZ := Lib.hid (decide_eq_true hz)
        have t1 : ¬ (524288 : Int) < (s.size : Int) := by omega
        have t2 : (524288 : Int) < (t.size : Int) := by omega
        clear hE hF hs ht hz h1 h2
        go_enter Tryf.func3, Tryf.ntmps3
        go_wp2_with (refine HB.out.mono ?_; rw [HZ.out]; rintro e w' ⟨rfl, rfl⟩)
        go_ret
        exact ⟨rfl, Below.refl _ _⟩
    · have HB := Lib.hid (cBytes s t w hs ht)
      have HZ := Lib.hid (decide_eq_true hz)
      have t1 : (524288 : Int) < (s.size : Int) := by omega
      clear hE hF hs ht hz h1
      go_enter Tryf.func3, Tryf.ntmps3
      go_wp2_with (refine HB.out.mono ?_; rw [HZ.out]; rintro e w' ⟨rfl, rfl⟩)
      go_ret
      exact ⟨rfl, Below.refl _ _⟩
  · have HB := Lib.hid (cBytes s t w hs ht)
    have HZ := Lib.hid (decide_eq_false hz)
    clear hE hF hs ht hz
    go_enter Tryf.func3, Tryf.ntmps3
    go_wp2_with (refine HB.out.mono ?_; rw [HZ.out]; rintro e w' ⟨rfl, rfl⟩)
    go_ret
    exact ⟨rfl, Below.refl _ _⟩

end Go.Proofs.YtgdlfcgboghadaaFmt.fnTokenStringToAstEscapesCompose
