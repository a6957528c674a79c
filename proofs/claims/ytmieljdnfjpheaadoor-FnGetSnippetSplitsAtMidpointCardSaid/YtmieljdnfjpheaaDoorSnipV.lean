/-
  The walk of FnGetSnippetSplitsAtMidpoint.
-/
import Derived.Test.YtmieljdnfjpheaaDoorSnipB
import Derived.Test.YtmieljdnfjpheaaDoorSrcW
import Derived.Test.YtmieljdnfjpheaaDoorVUtfA
namespace Go.Proofs.YtmieljdnfjpheaaDoor.fnGetSnippetSplitsAtMidpoint
open Go Go.RowKit Go.Shelf
open Go.Proofs.YtmieljdnfjpheaaDoor.fnBuildSourceLineCountEveryString (countNL)

theorem bytes_ok (s : ByteArray) (a b c d e f : Int) (w : World) (h : s.size ≤ 1048576) :
    Calls Tryd.prog 19 #[.string s, .int .i64 a, .int .i64 b, .int .i64 c, .int .i64 d, .int .i64 e, .int .i64 f] w fun e w' => e = .returned (.bool true) ∧ w = w' := by
  go_enter Tryd.func19, Tryd.ntmps19
  go_wp2
  go_ret
  exact ⟨rfl, rfl⟩
theorem bytes_no (s : ByteArray) (a b c d e f : Int) (w : World) (hs : s.size ≤ maxLen) (h : 1048576 < s.size) :
    Calls Tryd.prog 19 #[.string s, .int .i64 a, .int .i64 b, .int .i64 c, .int .i64 d, .int .i64 e, .int .i64 f] w fun e w' => e = .returned (.bool false) ∧ w = w' := by
  unfold maxLen at hs
  go_enter Tryd.func19, Tryd.ntmps19
  go_wp2
  all_goals go_ret
  all_goals exact ⟨rfl, rfl⟩

/-- LocationBefore, told. -/
def lbB (a b c d : Int) : Bool := if a = c then decide (b < d) else decide (a < c)
theorem locBefore (a b c d : Int) (w : World) : Calls Tryd.prog 20 #[.agg #[.int .i64 a, .int .i64 b], .agg #[.int .i64 c, .int .i64 d]] w fun e w' => e = .returned (.bool (lbB a b c d)) ∧ Below w.heap.size w w' := by
  by_cases h : a = c
  · subst h
    have e1 : lbB a b a d = decide (b < d) := by unfold lbB; rw [if_pos rfl]
    rw [e1]
    clear e1
    have hq : (a != a) = false := by simp
    go_enter Tryd.func20, Tryd.ntmps20
    go_wp2
    go_ret
    exact ⟨rfl, ((Below.refl _ _).alloc (Nat.le_refl _) _).alloc (by simp) _⟩
  · have e1 : lbB a b c d = decide (a < c) := by unfold lbB; rw [if_neg h]
    rw [e1]
    clear e1
    have hq : (a != c) = true := bne_iff_ne.2 h
    clear h
    go_enter Tryd.func20, Tryd.ntmps20
    go_wp2
    go_ret
    exact ⟨rfl, ((Below.refl _ _).alloc (Nat.le_refl _) _).alloc (by simp) _⟩

theorem pcells {W0 wX : World} {b : Nat} {x y : Value} {t : TypeId} (h : W0.heap[b]? = some (.cells #[x, y] t (0, 0))) (hb : Below W0.heap.size W0 wX) : wX.cell? ⟨b, 0, none⟩ = some x ∧ wX.cell? ⟨b, 1, none⟩ = some y := by
  have hlt : b < W0.heap.size := (Array.getElem?_eq_some_iff.1 h).1
  have h2 := (hb.block b hlt).trans h
  exact ⟨(cell_of_row wX b 0 _ _ _ h2).trans rfl, (cell_of_row wX b 1 _ _ _ h2).trans rfl⟩
theorem off_le {s T : ByteArray} (_h : TLines s T) {l c l' c' : Nat} (h1 : 1 ≤ l) (h2 : l' ≤ (srcLines s).length) (hc : c ≤ llen s (l - 1)) (hc' : 1 ≤ c') (hlb : lbB l' c' l c = false) : l ≤ l' ∧ lstart s (l - 1) + c - 1 ≤ lstart s (l' - 1) + c' - 1 := by
  unfold lbB at hlb
  by_cases e : ((l' : Nat) : Int) = (l : Int)
  · rw [if_pos e] at hlb
    have e2 : l' = l := by omega
    subst e2
    have := of_decide_eq_false hlb
    exact ⟨Nat.le_refl _, by omega⟩
  · rw [if_neg e] at hlb
    have := of_decide_eq_false hlb
    have hlt : l < l' := by omega
    have hn := lst_next (s := s) (k := l - 1) (by omega)
    rw [show l - 1 + 1 = l by omega] at hn
    have hm := lst_mono (s := s) l (l' - 1 - l) (by omega)
    rw [show l + (l' - 1 - l) = l' - 1 by omega] at hm
    exact ⟨by omega, by omega⟩

set_option maxHeartbeats 6400000 in
set_option maxRecDepth 100000 in
theorem walk (s : ByteArray) (l1 c1 l2 c2 l3 c3 : Int) (w : World) (hs : s.size ≤ maxLen) (_ : (Lit.int .i64 l1).wf = true) (_ : (Lit.int .i64 c1).wf = true) (_ : (Lit.int .i64 l2).wf = true) (_ : (Lit.int .i64 c2).wf = true) (_ : (Lit.int .i64 l3).wf = true) (_ : (Lit.int .i64 c3).wf = true) :
    Calls Tryd.prog 6 #[.string s, .int .i64 l1, .int .i64 c1, .int .i64 l2, .int .i64 c2, .int .i64 l3, .int .i64 c3] w fun e w' => e = .returned (.bool true) ∧ Below w.heap.size w w' := by
  by_cases hz : 1048576 < s.size
  · go_enter Tryd.func6, Tryd.ntmps6
    go_wp2_with (go_at_call 19; refine (bytes_no s l1 c1 l2 c2 l3 c3 _ hs hz).mono ?_; rintro e w' ⟨rfl, rfl⟩)
    go_ret
    exact ⟨rfl, Below.refl _ _⟩
  have hz' : s.size ≤ 1048576 := by omega
  clear hs hz
  obtain ⟨T, hT⟩ : ∃ T : ByteArray, s ++ ⟨#[10]⟩ = T := ⟨_, rfl⟩
  have hTs : T.size ≤ 1048577 := by rw [← hT, snocT_size]; omega
  have HT := Lib.hid hT
  go_enter Tryd.func6, Tryd.ntmps6
  go_wp2_with fail
  refine (bytes_ok s l1 c1 l2 c2 l3 c3 _ hz').mono ?_
  rintro e w' ⟨rfl, rfl⟩
  go_wp2_with fail
  refine (zzValidUTF8 s (by omega) _).mono ?_
  rintro e w' ⟨b, rfl, hbv, rfl⟩
  have HBV := Lib.hid hbv
  clear hbv
  cases b
  · go_wp2
    go_ret
    exact ⟨rfl, Below.refl _ _⟩
  have hv := HBV.out rfl
  have htl := tlines hv HT.out
  have hnl := nlc_all htl hv
  have HTL := Lib.hid htl
  have HNL := Lib.hid hnl
  have hnn : (srcLines s).length ≤ 1048577 := by have := nlc_le T T.size; omega
  clear HBV hnl hv htl
  go_wp2_with fail
  refine (countNL T (by omega) _).mono ?_
  rw [HNL.out]
  rintro e w' ⟨rfl, rfl⟩
  by_cases a1 : l1 < 1
  · go_wp2
    all_goals go_ret
    all_goals exact ⟨rfl, Below.refl _ _⟩
  have ba1 : decide (l1 < 1) = false := decide_eq_false a1
  by_cases n1 : ((srcLines s).length : Int) < l1
  · go_wp2
    all_goals go_ret
    all_goals exact ⟨rfl, Below.refl _ _⟩
  have bn1 : decide (((srcLines s).length : Int) < l1) = false := decide_eq_false n1
  obtain ⟨L1, rfl⟩ := Int.eq_ofNat_of_zero_le (show 0 ≤ l1 by omega)
  have h1a : 1 ≤ L1 := by omega
  have h1b : L1 ≤ (srcLines s).length := by omega
  clear a1 n1
  by_cases a2 : l2 < 1
  · go_wp2
    all_goals go_ret
    all_goals exact ⟨rfl, Below.refl _ _⟩
  have ba2 : decide (l2 < 1) = false := decide_eq_false a2
  by_cases n2 : ((srcLines s).length : Int) < l2
  · go_wp2
    all_goals go_ret
    all_goals exact ⟨rfl, Below.refl _ _⟩
  have bn2 : decide (((srcLines s).length : Int) < l2) = false := decide_eq_false n2
  obtain ⟨L2, rfl⟩ := Int.eq_ofNat_of_zero_le (show 0 ≤ l2 by omega)
  have h2a : 1 ≤ L2 := by omega
  have h2b : L2 ≤ (srcLines s).length := by omega
  clear a2 n2
  by_cases a3 : l3 < 1
  · go_wp2
    all_goals go_ret
    all_goals exact ⟨rfl, Below.refl _ _⟩
  have ba3 : decide (l3 < 1) = false := decide_eq_false a3
  by_cases n3 : ((srcLines s).length : Int) < l3
  · go_wp2
    all_goals go_ret
    all_goals exact ⟨rfl, Below.refl _ _⟩
  have bn3 : decide (((srcLines s).length : Int) < l3) = false := decide_eq_false n3
  obtain ⟨L3, rfl⟩ := Int.eq_ofNat_of_zero_le (show 0 ≤ l3 by omega)
  have h3a : 1 ≤ L3 := by omega
  have h3b : L3 ≤ (srcLines s).length := by omega
  clear a3 n3
  by_cases d1 : c1 < 1
  · go_wp2
    all_goals go_ret
    all_goals exact ⟨rfl, Below.refl _ _⟩
  have bd1 : decide (c1 < 1) = false := decide_eq_false d1
  obtain ⟨C1, rfl⟩ := Int.eq_ofNat_of_zero_le (show 0 ≤ c1 by omega)
  have h1c : 1 ≤ C1 := by omega
  have hll1 : llen s (L1 - 1) ≤ 1048577 := by have := lst_next (s := s) (k := L1 - 1) (by omega); have := lst_le HTL.out (L1 - 1 + 1); omega
  clear d1
  go_wp2_with fail
  refine (lineLen HTL.out (by omega) (L1 - 1) (by omega) _ (by omega) _).mono ?_
  rintro e w' ⟨rfl, rfl⟩
  by_cases e1 : llen s (L1 - 1) < C1
  · go_wp2
    all_goals go_ret
    all_goals exact ⟨rfl, Below.refl _ _⟩
  have be1 : decide (llen s (L1 - 1) < C1) = false := decide_eq_false (by omega)
  have h1d : C1 ≤ llen s (L1 - 1) := by omega
  clear e1
  by_cases d2 : c2 < 1
  · go_wp2
    all_goals go_ret
    all_goals exact ⟨rfl, Below.refl _ _⟩
  have bd2 : decide (c2 < 1) = false := decide_eq_false d2
  obtain ⟨C2, rfl⟩ := Int.eq_ofNat_of_zero_le (show 0 ≤ c2 by omega)
  have h2c : 1 ≤ C2 := by omega
  have hll2 : llen s (L2 - 1) ≤ 1048577 := by have := lst_next (s := s) (k := L2 - 1) (by omega); have := lst_le HTL.out (L2 - 1 + 1); omega
  clear d2
  go_wp2_with fail
  refine (lineLen HTL.out (by omega) (L2 - 1) (by omega) _ (by omega) _).mono ?_
  rintro e w' ⟨rfl, rfl⟩
  by_cases e2 : llen s (L2 - 1) < C2
  · go_wp2
    all_goals go_ret
    all_goals exact ⟨rfl, Below.refl _ _⟩
  have be2 : decide (llen s (L2 - 1) < C2) = false := decide_eq_false (by omega)
  have h2d : C2 ≤ llen s (L2 - 1) := by omega
  clear e2
  by_cases d3 : c3 < 1
  · go_wp2
    all_goals go_ret
    all_goals exact ⟨rfl, Below.refl _ _⟩
  have bd3 : decide (c3 < 1) = false := decide_eq_false d3
  obtain ⟨C3, rfl⟩ := Int.eq_ofNat_of_zero_le (show 0 ≤ c3 by omega)
  have h3c : 1 ≤ C3 := by omega
  have hll3 : llen s (L3 - 1) ≤ 1048577 := by have := lst_next (s := s) (k := L3 - 1) (by omega); have := lst_le HTL.out (L3 - 1 + 1); omega
  clear d3
  go_wp2_with fail
  refine (lineLen HTL.out (by omega) (L3 - 1) (by omega) _ (by omega) _).mono ?_
  rintro e w' ⟨rfl, rfl⟩
  by_cases e3 : llen s (L3 - 1) + 1 < C3
  · go_wp2
    all_goals go_ret
    all_goals exact ⟨rfl, Below.refl _ _⟩
  have be3 : decide ((llen s (L3 - 1) : Int) + 1 < C3) = false := decide_eq_false (by omega)
  have h3d : C3 ≤ llen s (L3 - 1) + 1 := by omega
  clear e3
  have q0 : Below w.heap.size w (((w.alloc (.cells #[.int .i64 L1, .int .i64 C1] 35)).alloc (.cells #[.int .i64 L2, .int .i64 C2] 35)).alloc (.cells #[.int .i64 L3, .int .i64 C3] 35)) := (((Below.refl _ w).alloc (Nat.le_refl _) _).alloc (by simp) _).alloc (by simp; omega) _
  have p1 : (((w.alloc (.cells #[.int .i64 L1, .int .i64 C1] 35)).alloc (.cells #[.int .i64 L2, .int .i64 C2] 35)).alloc (.cells #[.int .i64 L3, .int .i64 C3] 35)).heap[w.heap.size]? = some (.cells #[.int .i64 L1, .int .i64 C1] 35 (0, 0)) := by
    rw [Below.heap_alloc _ _ _ (by simp; omega), Below.heap_alloc _ _ _ (by simp)]
    exact heap_alloc_new w _
  have p2 : (((w.alloc (.cells #[.int .i64 L1, .int .i64 C1] 35)).alloc (.cells #[.int .i64 L2, .int .i64 C2] 35)).alloc (.cells #[.int .i64 L3, .int .i64 C3] 35)).heap[w.heap.size + 1]? = some (.cells #[.int .i64 L2, .int .i64 C2] 35 (0, 0)) := by
    rw [Below.heap_alloc _ _ _ (by simp)]
    have := heap_alloc_new (w.alloc (.cells #[.int .i64 L1, .int .i64 C1] 35)) (.cells #[.int .i64 L2, .int .i64 C2] 35)
    simpa using this
  have p3 : (((w.alloc (.cells #[.int .i64 L1, .int .i64 C1] 35)).alloc (.cells #[.int .i64 L2, .int .i64 C2] 35)).alloc (.cells #[.int .i64 L3, .int .i64 C3] 35)).heap[w.heap.size + 1 + 1]? = some (.cells #[.int .i64 L3, .int .i64 C3] 35 (0, 0)) := by
    have := heap_alloc_new ((w.alloc (.cells #[.int .i64 L1, .int .i64 C1] 35)).alloc (.cells #[.int .i64 L2, .int .i64 C2] 35)) (.cells #[.int .i64 L3, .int .i64 C3] 35)
    simpa using this
  have HQ0 := Lib.hid q0
  have P1 := Lib.hid p1
  have P2 := Lib.hid p2
  have P3 := Lib.hid p3
  clear q0 p1 p2 p3
  go_wp2_with fail
  generalize ((w.alloc (.cells #[.int .i64 L1, .int .i64 C1] 35)).alloc (.cells #[.int .i64 L2, .int .i64 C2] 35)).alloc (.cells #[.int .i64 L3, .int .i64 C3] 35) = W0 at HQ0 P1 P2 P3
  have hs0 := HQ0.out.size
  refine (locBefore L2 C2 L1 C1 _).mono ?_
  cases hb1 : lbB L2 C2 L1 C1
  case true =>
    rintro e w2 ⟨rfl, hb2⟩
    go_wp2
    go_ret
    exact ⟨rfl, HQ0.out.trans (hb2.mono hs0)⟩
  rintro e w2 ⟨rfl, hb2⟩
  have HL1 := Lib.hid hb1
  obtain ⟨x1, x2⟩ := pcells P2.out hb2
  obtain ⟨x3, x4⟩ := pcells P3.out hb2
  have hs2 := hb2.size
  clear hb1
  go_wp2_with fail
  refine (locBefore L3 C3 L2 C2 _).mono ?_
  cases hb1 : lbB L3 C3 L2 C2
  case true =>
    rintro e w3 ⟨rfl, hb3⟩
    clear hb1
    go_wp2
    go_ret
    exact ⟨rfl, HQ0.out.trans ((hb2.trans (hb3.mono hs2)).mono hs0)⟩
  rintro e w3 ⟨rfl, hb3⟩
  have HL2 := Lib.hid hb1
  have hb3' : Below W0.heap.size W0 w3 := hb2.trans (hb3.mono hs2)
  have hs3 := hb3'.size
  clear hb1 x1 x2 x3 x4 hb2 hb3
  obtain ⟨o1, o2⟩ := off_le HTL.out h1a h2b h1d h2c HL1.out
  obtain ⟨o3, o4⟩ := off_le HTL.out h2a h3b h2d h3c HL2.out
  obtain ⟨O1, hO1⟩ : ∃ O, O = lstart s (L1 - 1) + C1 - 1 := ⟨_, rfl⟩
  obtain ⟨O2, hO2⟩ : ∃ O, O = lstart s (L2 - 1) + C2 - 1 := ⟨_, rfl⟩
  obtain ⟨O3, hO3⟩ : ∃ O, O = lstart s (L3 - 1) + C3 - 1 := ⟨_, rfl⟩
  have HA12 : Hid (SnipArgs s T L1 C1 L2 C2 O1 O2) := Lib.hid ⟨HTL.out, h1a, o1, h2b, h1c, h1d, h2c, by omega, hO1, hO2⟩
  have HA23 : Hid (SnipArgs s T L2 C2 L3 C3 O2 O3) := Lib.hid ⟨HTL.out, h2a, o3, h3b, h2c, h2d, h3c, h3d, hO2, hO3⟩
  have HA13 : Hid (SnipArgs s T L1 C1 L3 C3 O1 O3) := Lib.hid ⟨HTL.out, h1a, by omega, h3b, h1c, h1d, h3c, h3d, hO1, hO3⟩
  have hO12 : O1 ≤ O2 := by omega
  have hO23 : O2 ≤ O3 := by omega
  have HJ := Lib.hid (seg_join T hO12 hO23)
  clear hO1 hO2 hO3 o2 o4
  go_wp2_with fail
  refine (buildSource ⟨#[]⟩ s (by omega) _).mono ?_
  rintro e w4 ⟨N, v, rfl, hN, hNb, hown, hb4⟩
  obtain ⟨g, cap, rfl, hg1, hg2⟩ := hown.form (by omega)
  have hsrc : SrcAt w4 w3.heap.size N s := ⟨_, g, cap, hNb, hown⟩
  have hb4' : Below W0.heap.size W0 w4 := hb3'.trans (hb4.mono hs3)
  have hab : Below w4.heap.size w4 (w4.alloc (.cells #[] 33)) := (Below.refl _ w4).alloc (Nat.le_refl _) _
  have hsrc4 : SrcAt (w4.alloc (.cells #[] 33)) w3.heap.size N s := hsrc.below hab
  have hs4 := hb4'.size
  have hl3 : w.heap.size + 1 + 1 < W0.heap.size := (Array.getElem?_eq_some_iff.1 P3.out).1
  have hl4 : w.heap.size + 1 + 1 < w4.heap.size := by omega
  have hl5 : w.heap.size < w4.heap.size := by omega
  have hl6 : w.heap.size + 1 < w4.heap.size := by omega
  have hbA : Below W0.heap.size W0 (w4.alloc (.cells #[] 33)) := hb4'.trans (hab.mono hs4)
  have HS4 := Lib.hid hsrc4
  have HBA := Lib.hid hbA
  obtain ⟨x1, x2⟩ := pcells P1.out hb4'
  obtain ⟨x3, x4⟩ := pcells P2.out hb4'
  clear hsrc hsrc4 hown hNb hb4 hb4' hb3' hbA hab
  go_wp2_with fail
  refine (getSnippet s T _ w3.heap.size N HS4.out _ _ L1 C1 L2 C2 O1 O2 HA12.out (by omega)).mono ?_
  rintro e w5 ⟨rfl, hb5⟩
  have hz5 := hb5.size
  simp at hz5
  have HS5 := Lib.hid (HS4.out.below hb5)
  have hbA5 : Below W0.heap.size W0 w5 := HBA.out.trans (hb5.mono (by simp; omega))
  have HB5 := Lib.hid hbA5
  clear x1 x2 x3 x4 hb5
  obtain ⟨x1, x2⟩ := pcells P2.out hbA5
  obtain ⟨x3, x4⟩ := pcells P3.out hbA5
  clear hbA5
  go_wp2_with fail
  refine (getSnippet s T _ w3.heap.size N HS5.out _ _ L2 C2 L3 C3 O2 O3 HA23.out (by omega)).mono ?_
  rintro e w6 ⟨rfl, hb6⟩
  have hz6 := hb6.size
  have HS6 := Lib.hid (HS5.out.below hb6)
  have hbA6 : Below W0.heap.size W0 w6 := HB5.out.trans (hb6.mono (by omega))
  have HB6 := Lib.hid hbA6
  clear x1 x2 x3 x4 hb6
  obtain ⟨x1, x2⟩ := pcells P1.out hbA6
  obtain ⟨x3, x4⟩ := pcells P3.out hbA6
  clear hbA6
  go_wp2_with fail
  refine (getSnippet s T _ w3.heap.size N HS6.out _ _ L1 C1 L3 C3 O1 O3 HA13.out (by omega)).mono ?_
  rintro e w7 ⟨rfl, hb7⟩
  have hbA7 : Below W0.heap.size W0 w7 := HB6.out.trans (hb7.mono (by omega))
  have hcat : ((⟨(seg T O1 O2).toArray⟩ : ByteArray) ++ ⟨(seg T O2 O3).toArray⟩) = ⟨(seg T O1 O3).toArray⟩ := by
    rw [← HJ.out]
    apply ByteArray.ext
    simp [ByteArray.data_append]
  have hx1 : (⟨(seg T O1 O2).toArray⟩ : ByteArray).size ≤ 1048577 := Nat.le_trans (Nat.le_of_eq List.size_toArray) (Nat.le_trans (seg_length T O1 O2) hTs)
  have hx2 : (⟨(seg T O2 O3).toArray⟩ : ByteArray).size ≤ 1048577 := Nat.le_trans (Nat.le_of_eq List.size_toArray) (Nat.le_trans (seg_length T O2 O3) hTs)
  generalize (⟨(seg T O1 O2).toArray⟩ : ByteArray) = X1 at hcat hx1 ⊢
  generalize (⟨(seg T O2 O3).toArray⟩ : ByteArray) = X2 at hcat hx2 ⊢
  generalize (⟨(seg T O1 O3).toArray⟩ : ByteArray) = X3 at hcat ⊢
  clear x1 x2 x3 x4 hb7
  go_wp2
  go_ret
  exact ⟨rfl, HQ0.out.trans (hbA7.mono hs0)⟩

end Go.Proofs.YtmieljdnfjpheaaDoor.fnGetSnippetSplitsAtMidpoint
