/-
  FnTokenStringToAstCaseTable: the walk.
-/
import Derived.Test.YtgdlfcgboghadaaFmtEsW
namespace Go.Proofs.YtgdlfcgboghadaaFmt.fnTokenStringToAstCaseTable
open Go Go.RowKit Go.Shelf Go.Extern.Stop Go.Stop

theorem tBytes (k : Int) (d bi bt : ByteArray) (w : World) (hd : d.size ≤ maxLen) (hi : bi.size ≤ maxLen) (ht : bt.size ≤ maxLen) :
    Calls Tryf.prog 9 #[.int .i64 k, .string d, .string bi, .string bt] w fun e w' => e = .returned (.bool (decide (d.size + bi.size + bt.size ≤ 1048576))) ∧ w = w' := by
  unfold maxLen at hd hi ht
  by_cases q0 : 1048576 < d.size
  · have e1 : decide (d.size + bi.size + bt.size ≤ 1048576) = false := decide_eq_false (by omega)
    have t0 : (1048576 : Int) < (d.size : Int) := by omega
    rw [e1]
    clear e1
    go_enter Tryf.func9, Tryf.ntmps9
    go_wp2
    go_ret
    exact ⟨rfl, rfl⟩
  have t0 : ¬ (1048576 : Int) < (d.size : Int) := by omega
  by_cases q1 : 1048576 < bi.size
  · have e1 : decide (d.size + bi.size + bt.size ≤ 1048576) = false := decide_eq_false (by omega)
    have t1 : (1048576 : Int) < (bi.size : Int) := by omega
    rw [e1]
    clear e1
    go_enter Tryf.func9, Tryf.ntmps9
    go_wp2
    go_ret
    exact ⟨rfl, rfl⟩
  have t1 : ¬ (1048576 : Int) < (bi.size : Int) := by omega
  by_cases q3 : 1048576 < d.size + bi.size
  · have e1 : decide (d.size + bi.size + bt.size ≤ 1048576) = false := decide_eq_false (by omega)
    have t3 : (1048576 : Int) < (d.size : Int) + (bi.size : Int) := by omega
    rw [e1]
    clear e1
    go_enter Tryf.func9, Tryf.ntmps9
    go_wp2
    go_ret
    exact ⟨rfl, rfl⟩
  have t3 : ¬ (1048576 : Int) < (d.size : Int) + (bi.size : Int) := by omega
  by_cases q2 : 1048576 < bt.size
  · have e1 : decide (d.size + bi.size + bt.size ≤ 1048576) = false := decide_eq_false (by omega)
    have t2 : (1048576 : Int) < (bt.size : Int) := by omega
    rw [e1]
    clear e1
    go_enter Tryf.func9, Tryf.ntmps9
    go_wp2
    go_ret
    exact ⟨rfl, rfl⟩
  have t2 : ¬ (1048576 : Int) < (bt.size : Int) := by omega
  by_cases q4 : 1048576 < d.size + bi.size + bt.size
  · have e1 : decide (d.size + bi.size + bt.size ≤ 1048576) = false := decide_eq_false (by omega)
    have t4 : (1048576 : Int) < (d.size : Int) + (bi.size : Int) + (bt.size : Int) := by omega
    rw [e1]
    clear e1
    go_enter Tryf.func9, Tryf.ntmps9
    go_wp2
    go_ret
    exact ⟨rfl, rfl⟩
  have t4 : ¬ (1048576 : Int) < (d.size : Int) + (bi.size : Int) + (bt.size : Int) := by omega
  have e1 : decide (d.size + bi.size + bt.size ≤ 1048576) = true := decide_eq_true (by omega)
  rw [e1]
  clear e1
  go_enter Tryf.func9, Tryf.ntmps9
  go_wp2
  go_ret
  exact ⟨rfl, rfl⟩

set_option maxHeartbeats 3200000 in
set_option maxRecDepth 100000 in
theorem walk_ok (F : Interp) (ev : Value) (k : Int) (d bi bt : ByteArray) (w : World) (k0 : -9223372036854775808 ≤ k) (k1 : k ≤ 9223372036854775807) (hz : d.size + bi.size + bt.size ≤ 1048576) (hd : d.size ≤ 262144) (hi : bi.size ≤ 262144) (ht : bt.size ≤ 262144) (hE : Env F ev w) :
    Calls Tryf.prog 4 #[.int .i64 k, .string d, .string bi, .string bt] w fun e w' => e = .returned (.bool true) ∧ Below w.heap.size w w' := by
  have HE := Lib.hid hE
  have HZ := Lib.hid (decide_eq_true hz)
  have HB := Lib.hid (tBytes k d bi bt w (by unfold maxLen; omega) (by unfold maxLen; omega) (by unfold maxLen; omega))
  have HM := Lib.hid (mod5 k w k0 k1)
  have t1 : ¬ (262144 : Int) < (d.size : Int) := by omega
  have t2 : ¬ (262144 : Int) < (bi.size : Int) := by omega
  have t3 : ¬ (262144 : Int) < (bt.size : Int) := by omega
  obtain ⟨b, hb⟩ : ∃ b, okAt d 0 = b := ⟨_, rfl⟩
  have H1 := Lib.hid hb
  have HS : Hid (d.size ≤ 4000000) := Lib.hid (by omega)
  clear hb hE hz hd hi ht k0 k1
  go_enter Tryf.func4, Tryf.ntmps4
  go_wp2_with fail
  refine HB.out.mono ?_
  rw [HZ.out]
  rintro e w' ⟨rfl, rfl⟩
  go_wp2_with fail
  refine HM.out.mono ?_
  rintro e w' ⟨⟨m, rfl, m0, m5⟩, rfl⟩
  have HK := Lib.hid (strKind m w m0 m5)
  clear m0 m5 HM HB
  go_wp2_with fail
  refine HK.out.mono ?_
  rintro e w' ⟨⟨kk, l, rfl, hkl⟩, rfl⟩
  clear HK
  rcases hkl with ⟨rfl, rfl, rfl⟩ | ⟨rfl, rfl, rfl⟩ | ⟨rfl, rfl, rfl⟩ | ⟨rfl, rfl, rfl⟩ | ⟨rfl, rfl, rfl⟩
  · go_wp2_with fail
    refine (zzSingleB HE.out d _ _ HS.out b H1.out).mono ?_
    rintro e w1 ⟨rfl, hb1⟩
    have HB1 := Lib.hid hb1
    clear hb1
    go_wp2_with fail
    refine (validEsc d HS.out _).mono ?_
    rw [H1.out]
    rintro e w2 ⟨rfl, rfl⟩
    cases b
    all_goals
      go_wp2
      go_ret
      exact ⟨rfl, HB1.out⟩
  · go_wp2_with fail
    refine (zzDoubleB HE.out d _ _ HS.out b H1.out).mono ?_
    rintro e w1 ⟨rfl, hb1⟩
    have HB1 := Lib.hid hb1
    clear hb1
    go_wp2_with fail
    refine (validEsc d HS.out _).mono ?_
    rw [H1.out]
    rintro e w2 ⟨rfl, rfl⟩
    cases b
    all_goals
      go_wp2
      go_ret
      exact ⟨rfl, HB1.out⟩
  · go_wp2_with fail
    refine (zzBlock HE.out d _ _ HS.out).mono ?_
    rintro e w1 ⟨rfl, hb1⟩
    have HB1 := Lib.hid hb1
    clear hb1
    go_wp2
    go_ret
    exact ⟨rfl, HB1.out⟩
  · go_wp2_with fail
    refine (zzVd HE.out d _ _ HS.out).mono ?_
    rintro e w1 ⟨rfl, hb1⟩
    have HB1 := Lib.hid hb1
    clear hb1
    go_wp2
    go_ret
    exact ⟨rfl, HB1.out⟩
  · go_wp2_with fail
    refine (zzVs HE.out d _ _ HS.out).mono ?_
    rintro e w1 ⟨rfl, hb1⟩
    have HB1 := Lib.hid hb1
    clear hb1
    go_wp2
    go_ret
    exact ⟨rfl, HB1.out⟩

theorem lit_range {z : Int} (h : (Lit.int .i64 z).wf = true) : -9223372036854775808 ≤ z ∧ z ≤ 9223372036854775807 := by
  have e1 : IntKind.i64.min = -9223372036854775808 := by decide
  simp [Lit.wf, IntKind.wrap_i64] at h
  omega

set_option maxRecDepth 100000 in
theorem walk (F : Interp) (k : Int) (d bi bt : ByteArray) (w : World) (hF : F.answers w.tape) (hk : (Lit.int .i64 k).wf = true) (hd : d.size ≤ maxLen) (hi : bi.size ≤ maxLen) (ht : bt.size ≤ maxLen) (hL : laidMetH Tryf.prog Rows.fnTokenStringToAstCaseTableRow.laid w) :
    Calls Tryf.prog 4 #[.int .i64 k, .string d, .string bi, .string bt] w fun e w' => e = .returned (.bool true) ∧ Below w.heap.size w w' := by
  obtain ⟨ev, hE⟩ := envOf hF (by kernel_rfl) (by simp [Rows.fnTokenStringToAstCaseTableRow]) (by simp [Rows.fnTokenStringToAstCaseTableRow]) (by simp [Rows.fnTokenStringToAstCaseTableRow]) hL
  obtain ⟨k0, k1⟩ := lit_range hk
  clear hL hk
  have HB := Lib.hid (tBytes k d bi bt w hd hi ht)
  by_cases hz : d.size + bi.size + bt.size ≤ 1048576
  · have HZ := Lib.hid (decide_eq_true hz)
    by_cases h0 : 262144 < d.size
    · have t0 : (262144 : Int) < (d.size : Int) := by omega
      clear hE hF hd hi ht hz h0 k0 k1
      go_enter Tryf.func4, Tryf.ntmps4
      go_wp2_with (refine HB.out.mono ?_; rw [HZ.out]; rintro e w' ⟨rfl, rfl⟩)
      go_ret
      exact ⟨rfl, Below.refl _ _⟩
    have t0 : ¬ (262144 : Int) < (d.size : Int) := by omega
    by_cases h1 : 262144 < bi.size
    · have t1 : (262144 : Int) < (bi.size : Int) := by omega
      clear hE hF hd hi ht hz h1 k0 k1
      go_enter Tryf.func4, Tryf.ntmps4
      go_wp2_with (refine HB.out.mono ?_; rw [HZ.out]; rintro e w' ⟨rfl, rfl⟩)
      go_ret
      exact ⟨rfl, Below.refl _ _⟩
    have t1 : ¬ (262144 : Int) < (bi.size : Int) := by omega
    by_cases h2 : 262144 < bt.size
    · have t2 : (262144 : Int) < (bt.size : Int) := by omega
      clear hE hF hd hi ht hz h2 k0 k1
      go_enter Tryf.func4, Tryf.ntmps4
      go_wp2_with (refine HB.out.mono ?_; rw [HZ.out]; rintro e w' ⟨rfl, rfl⟩)
      go_ret
      exact ⟨rfl, Below.refl _ _⟩
    have t2 : ¬ (262144 : Int) < (bt.size : Int) := by omega
    exact walk_ok F ev k d bi bt w k0 k1 hz (by omega) (by omega) (by omega) hE
  · have HZ := Lib.hid (decide_eq_false hz)
    clear hE hF hd hi ht hz k0 k1
    go_enter Tryf.func4, Tryf.ntmps4
    go_wp2_with (refine HB.out.mono ?_; rw [HZ.out]; rintro e w' ⟨rfl, rfl⟩)
    go_ret
    exact ⟨rfl, Below.refl _ _⟩

end Go.Proofs.YtgdlfcgboghadaaFmt.fnTokenStringToAstCaseTable
