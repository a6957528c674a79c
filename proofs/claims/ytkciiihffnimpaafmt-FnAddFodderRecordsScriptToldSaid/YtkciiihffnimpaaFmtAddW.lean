/-
  The walk of FnAddFodderRecordsScript.
-/
import Derived.Test.YtkciiihffnimpaaFmtLaidTabs
import Derived.Test.YtkciiihffnimpaaFmtShimsT
import Derived.Test.YtkciiihffnimpaaFmtAddB
import Derived.StillTailTactics
import Derived.Deep.DeepCutAuto
namespace Go.Proofs.YtkciiihffnimpaaFmt.fnAddFodderRecordsScript
open Go Go.RowKit Go.Shelf

set_option maxHeartbeats 6400000 in
set_option maxRecDepth 100000 in
theorem core (a1 a2 a3 a : Option Addr) (n1 c1 n2 c2 n3 c3 n c : Nat) (ks bs is : List Int) (zs : List ByteArray) (w : World) (hk : IntsAt w w.heap.size (.slice a1 n1 c1) ks) (hkl : ks.length = n1) (hb : IntsAt w w.heap.size (.slice a2 n2 c2) bs) (hbl : bs.length = n2) (hi : IntsAt w w.heap.size (.slice a3 n3 c3) is) (hil : is.length = n3) (hz : StrsAt w w.heap.size (.slice a n c) zs) (hzl : zs.length = n)
    (h1 : n1 ≤ maxLen) (h2 : n2 ≤ maxLen) (h3 : n3 ≤ maxLen) (hn : n ≤ maxLen) (hzz : ∀ i, i < n → (zs.getD i ByteArray.empty).size ≤ maxLen) (hr : ∀ i, -9223372036854775808 ≤ ks.getD i 0 ∧ ks.getD i 0 ≤ 9223372036854775807) (hT : Lib.Utf8Tabs 0 1 w) :
    Calls Tryf.prog 3 #[.slice a1 n1 c1, .slice a2 n2 c2, .slice a3 n3 c3, .slice a n c] w fun e w' => e = .returned (.bool true) ∧ Below w.heap.size w w' := by
  obtain ⟨g0, g1⟩ := tabs_lt hT
  have HT := Lib.hid hT
  have HK := Lib.hid hk
  have HKL := Lib.hid hkl
  have HB := Lib.hid hb
  have HBL := Lib.hid hbl
  have HI := Lib.hid hi
  have HIL := Lib.hid hil
  have HZ := Lib.hid hz
  have HZL := Lib.hid hzl
  have HR := Lib.hid hr
  have HZ0 := Lib.hid (zzBytesAdd a1 a2 a3 a n1 c1 n2 c2 n3 c3 n c zs w hz hzl h1 h2 h3 hn hzz)
  clear hT hk hkl hb hbl hi hil hz hzl h1 h2 h3 hn hzz hr
  go_enter Tryf.func3, Tryf.ntmps3
  go_wp2_with fail
  refine HZ0.out.mono ?_
  rintro e w' ⟨⟨b, rfl, hb⟩, h⟩
  subst w'
  have HBB := Lib.hid hb
  clear hb HZ0
  cases b
  · go_wp2
    all_goals go_ret
    all_goals exact ⟨rfl, Below.refl _ _⟩
  obtain ⟨m1, m2, m3, m4, hzs⟩ := HBB.out rfl
  have HZS := Lib.hid hzs
  clear hzs HBB
  by_cases e1 : 65536 < n1
  · go_wp2
    all_goals go_ret
    all_goals exact ⟨rfl, Below.refl _ _⟩
  by_cases e2 : 65536 < n2
  · go_wp2
    all_goals go_ret
    all_goals exact ⟨rfl, Below.refl _ _⟩
  by_cases e3 : 65536 < n3
  · go_wp2
    all_goals go_ret
    all_goals exact ⟨rfl, Below.refl _ _⟩
  by_cases e4 : 65536 < n
  · go_wp2
    all_goals go_ret
    all_goals exact ⟨rfl, Below.refl _ _⟩
  go_wp2_with fail
  refine (strsBytes a n c zs w HZ.out HZL.out (by omega) HZS.out).mono ?_
  rintro e w' ⟨⟨SB, rfl, hSB⟩, h⟩
  subst w'
  by_cases e5 : 1048576 < 8 * n1 + 8 * n2 + 8 * n3 + SB
  · go_wp2
    all_goals go_ret
    all_goals exact ⟨rfl, Below.refl _ _⟩
  by_cases f1 : n2 = n1
  rotate_left
  · have f2 : ((n2 : Int) == (n1 : Int)) = false := beq_eq_false_iff_ne.2 (by omega)
    go_wp2
    all_goals go_ret
    all_goals exact ⟨rfl, Below.refl _ _⟩
  by_cases f3 : n3 = n1
  rotate_left
  · have f4 : ((n3 : Int) == (n1 : Int)) = false := beq_eq_false_iff_ne.2 (by omega)
    go_wp2
    all_goals go_ret
    all_goals exact ⟨rfl, Below.refl _ _⟩
  by_cases f5 : n = n1
  rotate_left
  · have f6 : ((n : Int) == (n1 : Int)) = false := beq_eq_false_iff_ne.2 (by omega)
    go_wp2
    all_goals go_ret
    all_goals exact ⟨rfl, Below.refl _ _⟩
  subst f1
  subst f3
  subst f5
  clear e1 e2 e3 hSB m2 m3 m4 m1
  go_wp2_with fail
  go_loop [9] (fun i => ∃ q : Nat, q ≤ n ∧ i = .int .i64 q ∧ Hid (∀ j, j < q → (0 ≤ bs.getD j 0 ∧ bs.getD j 0 ≤ 65536) ∧ 0 ≤ is.getD j 0 ∧ is.getD j 0 ≤ 65536)) (fun i => n - (intOf i).toNat)
  case atStart => exact ⟨0, Nat.zero_le _, rfl, Lib.hid (fun j hj => absurd hj (by omega))⟩
  case round =>
    obtain ⟨q, hq, rfl, HJ⟩ := hrel
    by_cases hlt : q < n
    · obtain ⟨b2, o2, rfl, _, hc2⟩ := HB.out.cell (k := q) (by rw [HBL.out]; exact hlt)
      obtain ⟨b3, o3, rfl, _, hc3⟩ := HI.out.cell (k := q) (by rw [HIL.out]; exact hlt)
      have d2 := hc2 q (by rw [HBL.out]; exact hlt)
      have d3 := hc3 q (by rw [HIL.out]; exact hlt)
      have i5 : (0 : Int) ≤ (q : Int) := Int.natCast_nonneg _
      have i6 : (q : Int) < (n : Int) := by omega
      have hnx : ((0 ≤ bs.getD q 0 ∧ bs.getD q 0 ≤ 65536) ∧ 0 ≤ is.getD q 0 ∧ is.getD q 0 ≤ 65536) → Hid (∀ j, j < q + 1 → (0 ≤ bs.getD j 0 ∧ bs.getD j 0 ≤ 65536) ∧ 0 ≤ is.getD j 0 ∧ is.getD j 0 ≤ 65536) := fun h => Lib.hid (fun j hj => by
        by_cases e : j = q
        · rw [e]; exact h
        · exact HJ.out j (by omega))
      have HNX := Lib.hid hnx
      clear hc2 hc3 hnx
      generalize bs.getD q 0 = x at d2 HNX
      generalize is.getD q 0 = y at d3 HNX
      by_cases x0 : x < 0
      · go_wp2
        all_goals go_ret
        all_goals exact ⟨rfl, Below.refl _ _⟩
      by_cases x1 : 65536 < x
      · go_wp2
        all_goals go_ret
        all_goals exact ⟨rfl, Below.refl _ _⟩
      by_cases y0 : y < 0
      · go_wp2
        all_goals go_ret
        all_goals exact ⟨rfl, Below.refl _ _⟩
      by_cases y1 : 65536 < y
      · go_wp2
        all_goals go_ret
        all_goals exact ⟨rfl, Below.refl _ _⟩
      have HN1 := HNX.out ⟨⟨by omega, by omega⟩, by omega, by omega⟩
      go_wp2
      go_round
      case rel => exact ⟨q + 1, by omega, by go_num, HN1⟩
      case measure => simp [intOf]; omega
    · obtain rfl : n = q := by omega
      have HRG := HJ
      clear HJ hlt hq
      go_wp2_with fail
      refine (copyInts _ ks w HK.out (by rw [HKL.out]; omega)).mono ?_
      rintro e w1 ⟨v1, rfl, hi1, hb1⟩
      obtain ⟨p1, k1, rfl, _⟩ := hi1.len
      rw [HKL.out] at hi1 ⊢
      have hs1 := hb1.size
      have HK1 := Lib.hid hi1
      have HT1 := Lib.hid (tabs_below HT.out hb1 g0 g1)
      clear hi1 HK
      go_wp2_with fail
      refine (copyInts _ bs w1 (IntsAt.up (HB.out.below hb1) hs1) (by rw [HBL.out]; omega)).mono ?_
      rintro e w2 ⟨v2, rfl, hi2, hb2⟩
      obtain ⟨p2, k2, rfl, _⟩ := hi2.len
      rw [HBL.out] at hi2 ⊢
      have hs2 := hb2.size
      have HB2 := Lib.hid hi2
      have hb12 : Below w.heap.size w w2 := hb1.trans (hb2.mono hs1)
      clear hi2 HB
      go_wp2_with fail
      refine (copyInts _ is w2 (IntsAt.up (HI.out.below hb12) (by omega)) (by rw [HIL.out]; omega)).mono ?_
      rintro e w3 ⟨v3, rfl, hi3, hb3⟩
      obtain ⟨p3, k3, rfl, _⟩ := hi3.len
      rw [HIL.out] at hi3 ⊢
      have hs3 := hb3.size
      have HI3 := Lib.hid hi3
      have hb13 : Below w.heap.size w w3 := hb12.trans (hb3.mono (by omega))
      clear hi3 HI
      go_wp2_with fail
      refine (copyStrs _ zs w3 (StrsAt.up (HZ.out.below hb13) (by omega)) (by rw [HZL.out]; omega)).mono ?_
      rintro e w4 ⟨v4, rfl, hi4, hb4⟩
      obtain ⟨p4, k4, rfl, _⟩ := hi4.len
      rw [HZL.out] at hi4 ⊢
      have hs4 := hb4.size
      have HZ4 := Lib.hid hi4
      have hb14 : Below w.heap.size w w4 := hb13.trans (hb4.mono (by omega))
      have HB4 := Lib.hid hb14
      have HKI := Lib.hid (show IntsAt w4 w4.heap.size (.slice p1 n k1) ks ∧ IntsAt w4 w4.heap.size (.slice p2 n k2) bs ∧ IntsAt w4 w4.heap.size (.slice p3 n k3) is from ⟨IntsAt.up (HK1.out.below (hb2.trans ((hb3.mono hs2).trans (hb4.mono (by omega))))) (by omega), IntsAt.up (HB2.out.below (hb3.trans (hb4.mono hs3))) (by omega), IntsAt.up (HI3.out.below hb4) hs4⟩)
      have HT4 := Lib.hid (tabs_below HT.out hb14 g0 g1)
      clear hi4 HZ HK1 HB2 HI3 HT HT1 hb1 hb2 hb3 hb4 hb12 hb13
      go_wp2_with fail
      refine (zzMake ⟨#[97, 98, 10, 99, 100]⟩ (by decide) _).mono ?_
      rintro e w5 ⟨N, M, rfl, hN, hAt, hb5⟩
      have hinv0 := inv_init ⟨#[]⟩ ⟨#[]⟩ ⟨#[97, 98, 10, 99, 100]⟩ (.pointer (some ⟨M, 0, none⟩))
      obtain ⟨L0, hL0⟩ : ∃ L0, L0 = initSt ⟨#[]⟩ ⟨#[]⟩ ⟨#[97, 98, 10, 99, 100]⟩ (.pointer (some ⟨M, 0, none⟩)) := ⟨_, rfl⟩
      have hto : L0.toks = .slice none 0 0 ∧ L0.fod = .slice none 0 0 := by rw [hL0]; exact ⟨rfl, rfl⟩
      rw [← hL0] at hAt hinv0
      have HTO := Lib.hid hto
      have HA0 := Lib.hid hAt
      have HV0 := Lib.hid hinv0
      clear hAt hinv0 hL0 hto
      have hw5 := hb5.size
      have HT5 := Lib.hid (tabs_below HT4.out hb5 (by omega) (by omega))
      go_wp2_with fail
      refine (zzNext N L0 _ HA0.out (by rw [HV0.out.inp]; decide) (HV0.out.lnb (by decide)).1 (HV0.out.lnb (by decide)).2 HT5.out).mono ?_
      rintro e w6 ⟨rfl, ha, hg⟩
      have hv := HV0.out.step
      have hto := step_keeps L0
      have hto2 : L0.step.toks = .slice none 0 0 ∧ L0.step.fod = .slice none 0 0 := ⟨hto.2.2.2.2.1.trans HTO.out.1, hto.2.2.2.2.2.1.trans HTO.out.2⟩
      have hb6 : Below w4.heap.size w4 w6 := hb5.trans (below_of_grown hg hN (by omega))
      have hw6 := hb6.size
      generalize L0.step = L1 at ha hv hto2
      clear hto HTO HA0 HV0 hg hb5
      have HTO := Lib.hid hto2
      have HA1 := Lib.hid ha
      have HV1 := Lib.hid hv
      have HT6 := Lib.hid (tabs_below HT4.out hb6 (by omega) (by omega))
      clear ha hv hto2
      go_wp2_with fail
      refine (zzNext N L1 _ HA1.out (by rw [HV1.out.inp]; decide) (HV1.out.lnb (by decide)).1 (HV1.out.lnb (by decide)).2 HT6.out).mono ?_
      rintro e w7 ⟨rfl, ha, hg⟩
      have hv := HV1.out.step
      have hto := step_keeps L1
      have hto2 : L1.step.toks = .slice none 0 0 ∧ L1.step.fod = .slice none 0 0 := ⟨hto.2.2.2.2.1.trans HTO.out.1, hto.2.2.2.2.2.1.trans HTO.out.2⟩
      have hb7 : Below w4.heap.size w4 w7 := hb6.trans (below_of_grown hg hN (by omega))
      have hw7 := hb7.size
      generalize L1.step = L2 at ha hv hto2
      clear hto HTO HA1 HV1 hg hb6
      have HTO := Lib.hid hto2
      have HA2 := Lib.hid ha
      have HV2 := Lib.hid hv
      have HT7 := Lib.hid (tabs_below HT4.out hb7 (by omega) (by omega))
      clear ha hv hto2
      go_wp2_with fail
      refine (zzNext N L2 _ HA2.out (by rw [HV2.out.inp]; decide) (HV2.out.lnb (by decide)).1 (HV2.out.lnb (by decide)).2 HT7.out).mono ?_
      rintro e w8 ⟨rfl, ha, hg⟩
      have hv := HV2.out.step
      have hto := step_keeps L2
      have hto2 : L2.step.toks = .slice none 0 0 ∧ L2.step.fod = .slice none 0 0 := ⟨hto.2.2.2.2.1.trans HTO.out.1, hto.2.2.2.2.2.1.trans HTO.out.2⟩
      have hb8 : Below w4.heap.size w4 w8 := hb7.trans (below_of_grown hg hN (by omega))
      have hw8 := hb8.size
      generalize L2.step = L3 at ha hv hto2
      clear hto HTO HA2 HV2 hg hb7
      have HTO := Lib.hid hto2
      have HA3 := Lib.hid ha
      have HV3 := Lib.hid hv
      have HT8 := Lib.hid (tabs_below HT4.out hb8 (by omega) (by omega))
      clear ha hv hto2
      go_wp2_with fail
      refine (zzPos N L3 _ HA3.out).mono ?_
      rintro e w9 ⟨rfl, m9, rfl⟩
      go_wp2_with fail
      refine (zzTokenStart N L3 (w8.drewN m9) (show LexAt w8 N L3 from HA3.out)).mono ?_
      rintro e w10 ⟨rfl, m10, rfl⟩
      have HA9 := Lib.hid (show LexAt ((w8.drewN m9).drewN m10) N { L3 with fod := .slice none 0 0 } from by
        have h := HA3.out
        have h2 := HTO.out.2
        cases L3
        simp only at h2
        subst h2
        exact h)
      have hb10 : Below w4.heap.size w4 ((w8.drewN m9).drewN m10) := drewN_below (drewN_below hb8 m9) m10
      have HF9 := Lib.hid (show AFods ((w8.drewN m9).drewN m10) w4.heap.size ks bs is zs (.slice none 0 0) 0 from ⟨[], World.ownsRow_nil _ _ _ _, fun j hj => absurd hj (by omega)⟩)
      generalize ((w8.drewN m9).drewN m10) = w9 at HA9 hb10 HF9 ⊢
      clear HA3 HV3 HT4 HT5 HT6 HT7 HT8 hb8 hw5 hw6 hw7 hw8
      go_wp2_with fail
      go_loopw [19] (fun i wr => ∃ (q : Nat) (v : Value), q ≤ n ∧ i = .int .i64 q ∧ Hid (LexAt wr N { L3 with fod := v }) ∧ Hid (AFods wr w4.heap.size ks bs is zs v q) ∧ Below w4.heap.size w4 wr) (fun i _ => n - (intOf i).toNat)
      case atStart => exact ⟨0, _, Nat.zero_le _, rfl, HA9, HF9, hb10⟩
      case round =>
        obtain ⟨q, v, hq, rfl, HAq, HFq, hbq⟩ := hrel
        have hszq := hbq.size
        clear HA9 HF9 hb10
        by_cases hlt : q < n
        · obtain ⟨bk, ok, rfl, hbk, hck⟩ := HKI.out.1.cell (k := q) (by rw [HKL.out]; exact hlt)
          obtain ⟨bb, ob, rfl, hbb, hcb⟩ := HKI.out.2.1.cell (k := q) (by rw [HBL.out]; exact hlt)
          obtain ⟨bi, oi, rfl, hbi, hci⟩ := HKI.out.2.2.cell (k := q) (by rw [HIL.out]; exact hlt)
          obtain ⟨bz, oz, rfl, hbz, hcz⟩ := HZ4.out.cell (k := q) (by rw [HZL.out]; exact hlt)
          have dk : wr.cell? ⟨bk, ok + q, none⟩ = some (.int .i64 (ks.getD q 0)) := (hbq.cell (p := ⟨bk, ok + q, none⟩) hbk).trans (hck q (by rw [HKL.out]; exact hlt))
          have db : wr.cell? ⟨bb, ob + q, none⟩ = some (.int .i64 (bs.getD q 0)) := (hbq.cell (p := ⟨bb, ob + q, none⟩) hbb).trans (hcb q (by rw [HBL.out]; exact hlt))
          have di : wr.cell? ⟨bi, oi + q, none⟩ = some (.int .i64 (is.getD q 0)) := (hbq.cell (p := ⟨bi, oi + q, none⟩) hbi).trans (hci q (by rw [HIL.out]; exact hlt))
          have dz : wr.cell? ⟨bz, oz + q, none⟩ = some (.string (zs.getD q ByteArray.empty)) := (hbq.cell (p := ⟨bz, oz + q, none⟩) hbz).trans (hcz q (by rw [HZL.out]; exact hlt))
          have hce : ∀ W, Below w4.heap.size w4 W → W.cell? ⟨bb, ob + q, none⟩ = some (.int .i64 (bs.getD q 0)) ∧ W.cell? ⟨bi, oi + q, none⟩ = some (.int .i64 (is.getD q 0)) ∧ W.cell? ⟨bz, oz + q, none⟩ = some (.string (zs.getD q ByteArray.empty)) := fun W h => ⟨(h.cell (p := ⟨bb, ob + q, none⟩) hbb).trans (hcb q (by rw [HBL.out]; exact hlt)), (h.cell (p := ⟨bi, oi + q, none⟩) hbi).trans (hci q (by rw [HIL.out]; exact hlt)), (h.cell (p := ⟨bz, oz + q, none⟩) hbz).trans (hcz q (by rw [HZL.out]; exact hlt))⟩
          have HMN := Lib.hid (fun W => modNN (ks.getD q 0) 3 (by omega) (by omega) (HR.out q).1 (HR.out q).2 W)
          obtain ⟨xs, ho, hx⟩ := HFq.out
          have HO := Lib.hid ho
          have HX := Lib.hid hx
          have i5 : (0 : Int) ≤ (q : Int) := Int.natCast_nonneg _
          have i6 : (q : Int) < (n : Int) := by omega
          obtain ⟨k3, hk3⟩ : ∃ k3, ks.getD q 0 % 3 = k3 := ⟨_, rfl⟩
          rw [hk3] at HMN
          have h3 : k3 = 0 ∨ k3 = 1 ∨ k3 = 2 := by omega
          obtain ⟨x, hxx⟩ : ∃ x, bs.getD q 0 = x := ⟨_, rfl⟩
          obtain ⟨y, hyy⟩ : ∃ y, is.getD q 0 = y := ⟨_, rfl⟩
          obtain ⟨t, htt⟩ : ∃ t, zs.getD q ByteArray.empty = t := ⟨_, rfl⟩
          rw [hxx] at db
          rw [hyy] at di
          rw [htt] at dz
          rw [hxx, hyy, htt] at hce
          have HCE := Lib.hid hce
          have HBD := Lib.hid (show Below w4.heap.size w4 wr.drew from drew_below hbq)
          have HK3 := Lib.hid hk3
          have HXX := Lib.hid hxx
          have HYY := Lib.hid hyy
          have HTT := Lib.hid htt
          generalize ks.getD q 0 = kk at dk HMN
          have HLA := Lib.hid (show ∀ o, LexAt (wr.drew.alloc o) N { L3 with fod := v } from fun o => (Below.heap_alloc wr.drew o N HAq.out.lt).trans HAq.out)
          have HBA := Lib.hid (show ∀ o, Below wr.heap.size wr (wr.drew.alloc o) from fun o => (drew_below (Below.refl _ wr)).alloc (Nat.le_refl _) o)
          have HO2 := Lib.hid (show ∀ o, (wr.drew.alloc o).ownsRow w4.heap.size 62 4 v q xs from fun o => ownsRow_below ho (HBA.out o))
          have HBW := Lib.hid (show ∀ o, Below w4.heap.size w4 (wr.drew.alloc o) from fun o => hbq.trans ((HBA.out o).mono hszq))
          have HSZ := Lib.hid (show ∀ o, w4.heap.size ≤ (wr.drew.alloc o).heap.size from fun o => (HBW.out o).size)
          have HOB := Lib.hid (show ∀ i, (i = N ∨ ({ L3 with fod := v } : LexSt).fod.ownBlock = some i) → w4.heap.size ≤ i from fun i hi => by
            rcases hi with hi | hi
            · rw [hi]; exact hN
            · rcases ho.2 with ⟨e0, _⟩ | ⟨gg, cp, cur, e0, hbase, _⟩
              · rw [show ({ L3 with fod := v } : LexSt).fod = v from rfl, e0] at hi
                simp [Value.ownBlock] at hi
              · rw [show ({ L3 with fod := v } : LexSt).fod = v from rfl, e0] at hi
                simp [Value.ownBlock] at hi
                omega)
          clear hck hcb hci hcz ho hx hk3 hxx hyy htt HFq hce
          go_wp2_with fail
          refine (HMN.out wr).mono ?_
          rintro e w' ⟨rfl, h⟩
          subst w'
          rcases h3 with rfl | rfl | rfl
          · cases hte : t.toList.isEmpty with
            | true =>
              have HTE := Lib.hid hte
              go_wp2_with fail
              go_region_held3 (fun W => W.cell? ⟨bb, ob + q, none⟩ = some (.int .i64 x) ∧ W.cell? ⟨bi, oi + q, none⟩ = some (.int .i64 y) ∧ W.cell? ⟨bz, oz + q, none⟩ = some (.string t)) (exact HCE.out _ (by first | exact HBD.out | exact HBW.out _ | assumption)) (first | (go_at_call 15; refine (fodKind0 _).mono ?_; rintro e w7 ⟨rfl, rfl⟩) | (go_at_call 14; refine (zzAddFodder N { L3 with fod := v } 0 x y (some ⟨wr.heap.size, 0, none⟩) 0 0 (.inl ⟨rfl, by omega⟩) (by omega) w4.heap.size q xs _ (HLA.out (.cells #[] 9)) (HO2.out (.cells #[] 9)) (HSZ.out (.cells #[] 9)) (by omega)).mono ?_; rintro e w7 ⟨rfl, v7, hA7, hown7, hv7, hk7⟩; have hb7 : Below w4.heap.size w4 w7 := (HBW.out (.cells #[] 9)).trans (Kept.below hk7 (fun i hi => HOB.out i hi) (HSZ.out (.cells #[] 9)))))
              all_goals
                have HF7 := Lib.hid (afods_step (HLA.out (.cells #[] 9)) (HBA.out (.cells #[] 9)) HO.out HX.out (k := 0) (bl := x) (ind := y) HK3.out.symm (by rw [HK3.out, if_neg (by decide)]; exact HXX.out.symm) (by rw [HK3.out, if_neg (by decide)]; exact HYY.out.symm) (by rw [HK3.out]; exact .inl ⟨rfl, by rw [HTT.out]; exact HTE.out, wr.heap.size, rfl⟩) hown7 hk7)
                have HA7 := Lib.hid hA7
                clear hA7 hown7 hk7
                go_wp2
                go_roundw
                case rel => exact ⟨q + 1, v7, by omega, by go_num, HA7, HF7, hb7⟩
                case measure => simp [intOf]; omega
            | false =>
              have HTE := Lib.hid hte
              go_wp2_with fail
              go_region_held3 (fun W => W.cell? ⟨bb, ob + q, none⟩ = some (.int .i64 x) ∧ W.cell? ⟨bi, oi + q, none⟩ = some (.int .i64 y) ∧ W.cell? ⟨bz, oz + q, none⟩ = some (.string t)) (exact HCE.out _ (by first | exact HBD.out | exact HBW.out _ | assumption)) (first | (go_at_call 15; refine (fodKind0 _).mono ?_; rintro e w7 ⟨rfl, rfl⟩) | (go_at_call 14; refine (zzAddFodder N { L3 with fod := v } 0 x y (some ⟨wr.heap.size, 0, none⟩) 1 1 (.inl ⟨rfl, by omega⟩) (by omega) w4.heap.size q xs _ (HLA.out (.cells #[.string t] 9)) (HO2.out (.cells #[.string t] 9)) (HSZ.out (.cells #[.string t] 9)) (by omega)).mono ?_; rintro e w7 ⟨rfl, v7, hA7, hown7, hv7, hk7⟩; have hb7 : Below w4.heap.size w4 w7 := (HBW.out (.cells #[.string t] 9)).trans (Kept.below hk7 (fun i hi => HOB.out i hi) (HSZ.out (.cells #[.string t] 9)))))
              all_goals
                have HF7 := Lib.hid (afods_step (HLA.out (.cells #[.string t] 9)) (HBA.out (.cells #[.string t] 9)) HO.out HX.out (k := 0) (bl := x) (ind := y) HK3.out.symm (by rw [HK3.out, if_neg (by decide)]; exact HXX.out.symm) (by rw [HK3.out, if_neg (by decide)]; exact HYY.out.symm) (by rw [HK3.out]; exact .inr ⟨fun h => by rw [HTT.out, HTE.out] at h; exact absurd h.2 (by decide), wr.heap.size, rfl, by rw [HTT.out]; exact heap_alloc_new wr.drew _⟩) hown7 hk7)
                have HA7 := Lib.hid hA7
                clear hA7 hown7 hk7
                go_wp2
                go_roundw
                case rel => exact ⟨q + 1, v7, by omega, by go_num, HA7, HF7, hb7⟩
                case measure => simp [intOf]; omega
          · go_wp2_with fail
            go_region_held3 (fun W => W.cell? ⟨bb, ob + q, none⟩ = some (.int .i64 x) ∧ W.cell? ⟨bi, oi + q, none⟩ = some (.int .i64 y) ∧ W.cell? ⟨bz, oz + q, none⟩ = some (.string t)) (exact HCE.out _ (by first | exact HBD.out | exact HBW.out _ | assumption)) (first | (go_at_call 15; refine (fodKind1 _).mono ?_; rintro e w7 ⟨rfl, rfl⟩) | (go_at_call 14; refine (zzAddFodder N { L3 with fod := v } 1 0 0 (some ⟨wr.heap.size, 0, none⟩) 1 1 (.inr (.inl ⟨rfl, rfl, rfl, rfl⟩)) (by omega) w4.heap.size q xs _ (HLA.out (.cells #[.string t] 9)) (HO2.out (.cells #[.string t] 9)) (HSZ.out (.cells #[.string t] 9)) (by omega)).mono ?_; rintro e w7 ⟨rfl, v7, hA7, hown7, hv7, hk7⟩; have hb7 : Below w4.heap.size w4 w7 := (HBW.out (.cells #[.string t] 9)).trans (Kept.below hk7 (fun i hi => HOB.out i hi) (HSZ.out (.cells #[.string t] 9)))))
            all_goals
              have HF7 := Lib.hid (afods_step (HLA.out (.cells #[.string t] 9)) (HBA.out (.cells #[.string t] 9)) HO.out HX.out (k := 1) (bl := 0) (ind := 0) HK3.out.symm (by rw [HK3.out]; rfl) (by rw [HK3.out]; rfl) (by rw [HK3.out]; exact .inr ⟨fun h => absurd h.1 (by decide), wr.heap.size, rfl, by rw [HTT.out]; exact heap_alloc_new wr.drew _⟩) hown7 hk7)
              have HA7 := Lib.hid hA7
              clear hA7 hown7 hk7
              go_wp2
              go_roundw
              case rel => exact ⟨q + 1, v7, by omega, by go_num, HA7, HF7, hb7⟩
              case measure => simp [intOf]; omega
          · go_wp2_with fail
            go_region_held3 (fun W => W.cell? ⟨bb, ob + q, none⟩ = some (.int .i64 x) ∧ W.cell? ⟨bi, oi + q, none⟩ = some (.int .i64 y) ∧ W.cell? ⟨bz, oz + q, none⟩ = some (.string t)) (exact HCE.out _ (by first | exact HBD.out | exact HBW.out _ | assumption)) (first | (go_at_call 15; refine (fodKind2 _).mono ?_; rintro e w7 ⟨rfl, rfl⟩) | (go_at_call 14; refine (zzAddFodder N { L3 with fod := v } 2 x y (some ⟨wr.heap.size, 0, none⟩) 1 1 (.inr (.inr ⟨rfl, Nat.le_refl _⟩)) (by omega) w4.heap.size q xs _ (HLA.out (.cells #[.string t] 9)) (HO2.out (.cells #[.string t] 9)) (HSZ.out (.cells #[.string t] 9)) (by omega)).mono ?_; rintro e w7 ⟨rfl, v7, hA7, hown7, hv7, hk7⟩; have hb7 : Below w4.heap.size w4 w7 := (HBW.out (.cells #[.string t] 9)).trans (Kept.below hk7 (fun i hi => HOB.out i hi) (HSZ.out (.cells #[.string t] 9)))))
            all_goals
              have HF7 := Lib.hid (afods_step (HLA.out (.cells #[.string t] 9)) (HBA.out (.cells #[.string t] 9)) HO.out HX.out (k := 2) (bl := x) (ind := y) HK3.out.symm (by rw [HK3.out, if_neg (by decide)]; exact HXX.out.symm) (by rw [HK3.out, if_neg (by decide)]; exact HYY.out.symm) (by rw [HK3.out]; exact .inr ⟨fun h => absurd h.1 (by decide), wr.heap.size, rfl, by rw [HTT.out]; exact heap_alloc_new wr.drew _⟩) hown7 hk7)
              have HA7 := Lib.hid hA7
              clear hA7 hown7 hk7
              go_wp2
              go_roundw
              case rel => exact ⟨q + 1, v7, by omega, by go_num, HA7, HF7, hb7⟩
              case measure => simp [intOf]; omega
        · obtain rfl : n = q := by omega
          obtain ⟨pv, cv, hpv⟩ := afods_form HFq.out
          subst hpv
          have hbo : Below w.heap.size w wr := HB4.out.trans (hbq.mono HB4.out.size)
          have t1 : ({ L3 with fod := .slice pv n cv } : LexSt).toks = .slice none 0 0 := HTO.out.1
          have t2 : ({ L3 with fod := .slice pv n cv } : LexSt).fod = .slice pv n cv := rfl
          have t6 : ({ L3 with fod := .slice pv n cv } : LexSt).bn = L3.bn ∧ ({ L3 with fod := .slice pv n cv } : LexSt).ln = L3.ln ∧ ({ L3 with fod := .slice pv n cv } : LexSt).ls = L3.ls ∧ ({ L3 with fod := .slice pv n cv } : LexSt).ts = L3.ts ∧ ({ L3 with fod := .slice pv n cv } : LexSt).tl = L3.tl ∧ ({ L3 with fod := .slice pv n cv } : LexSt).tc = L3.tc := ⟨rfl, rfl, rfl, rfl, rfl, rfl⟩
          have hA8 := HAq.out
          generalize ({ L3 with fod := .slice pv n cv } : LexSt) = L8 at hA8 t1 t2 t6
          have H8 := Lib.hid hA8
          have T1 := Lib.hid t1
          have T2 := Lib.hid t2
          have T6 := Lib.hid t6
          have HF8 := HFq
          clear HAq hA8 t1 t2 t6 HFq
          go_wp2_with fail
          refine (zzFodderLen N L8 _ H8.out _ _ _ T2.out).mono ?_
          rintro e w' ⟨rfl, h⟩
          subst w'
          go_wp2_with fail
          refine (zzTokensLen N L8 _ H8.out _ _ _ T1.out).mono ?_
          rintro e w' ⟨rfl, h⟩
          subst w'
          go_wp2_with fail
          obtain ⟨wo, rfl⟩ : ∃ wo : World, wo = wr := ⟨_, rfl⟩
          go_loopw [21] (fun i wr => ∃ x2 : Nat, x2 ≤ n ∧ i = .int .i64 x2 ∧ Below wo.heap.size wo wr) (fun i _ => n - (intOf i).toNat)
          case atStart => exact ⟨0, Nat.zero_le _, rfl, Below.refl _ _⟩
          case round =>
            obtain ⟨x2, hx2, rfl, hbx⟩ := hrel
            have hszx := hbx.size
            have HAx := Lib.hid (show LexAt wr N L8 from (hbx.block N H8.out.lt).trans H8.out)
            by_cases hlx : x2 < n
            · obtain ⟨xs, hox, hxx⟩ := HF8.out.below hbx
              obtain ⟨com, hrow, hcom⟩ := hxx x2 hlx
              obtain ⟨gv, rfl⟩ : ∃ gv, pv = some ⟨gv, 0, none⟩ := by
                obtain ⟨gv, cp, hv, _⟩ := hox.form (by omega)
                injection hv with h1
                exact ⟨gv, h1⟩
              obtain ⟨bk, ok, rfl, hbk, hck⟩ := HKI.out.1.cell (k := x2) (by rw [HKL.out]; exact hlx)
              obtain ⟨bb, ob, rfl, hbb, hcb⟩ := HKI.out.2.1.cell (k := x2) (by rw [HBL.out]; exact hlx)
              obtain ⟨bi, oi, rfl, hbi, hci⟩ := HKI.out.2.2.cell (k := x2) (by rw [HIL.out]; exact hlx)
              obtain ⟨bz, oz, rfl, hbz, hcz⟩ := HZ4.out.cell (k := x2) (by rw [HZL.out]; exact hlx)
              have hb4x : Below w4.heap.size w4 wr := hbq.trans (hbx.mono hszq)
              have dk : wr.cell? ⟨bk, ok + x2, none⟩ = some (.int .i64 (ks.getD x2 0)) := (hb4x.cell (p := ⟨bk, ok + x2, none⟩) hbk).trans (hck x2 (by rw [HKL.out]; exact hlx))
              have HMN := Lib.hid (fun W => modNN (ks.getD x2 0) 3 (by omega) (by omega) (HR.out x2).1 (HR.out x2).2 W)
              have i5 : (0 : Int) ≤ (x2 : Int) := Int.natCast_nonneg _
              have i6 : (x2 : Int) < (n : Int) := by omega
              have hr4 : ∀ r, r < 4 → wr.cell? ⟨gv, x2 * 4 + r, none⟩ = (fodCells com (ks.getD x2 0 % 3) (if ks.getD x2 0 % 3 = 1 then 0 else bs.getD x2 0) (if ks.getD x2 0 % 3 = 1 then 0 else is.getD x2 0))[r]? := fun r hr => (hox.cellAt (x2 * 4 + r) (by omega)).trans (hrow r hr)
              obtain ⟨k3, hk3⟩ : ∃ k3, ks.getD x2 0 % 3 = k3 := ⟨_, rfl⟩
              rw [hk3] at HMN hr4 hcom
              have h3 : k3 = 0 ∨ k3 = 1 ∨ k3 = 2 := by omega
              obtain ⟨x, hx0⟩ : ∃ x, bs.getD x2 0 = x := ⟨_, rfl⟩
              obtain ⟨y, hy0⟩ : ∃ y, is.getD x2 0 = y := ⟨_, rfl⟩
              obtain ⟨t, ht0⟩ : ∃ t, zs.getD x2 ByteArray.empty = t := ⟨_, rfl⟩
              rw [hx0, hy0] at hr4
              rw [ht0] at hcom
              have HB10 := Lib.hid (show ∀ W, Below wo.heap.size wo W → W.cell? ⟨bb, ob + x2, none⟩ = some (.int .i64 x) ∧ W.cell? ⟨bi, oi + x2, none⟩ = some (.int .i64 y) ∧ W.cell? ⟨bz, oz + x2, none⟩ = some (.string t) from fun W h => by
                have hb := hbq.trans (h.mono hszq)
                exact ⟨by rw [← hx0]; exact (hb.cell (p := ⟨bb, ob + x2, none⟩) hbb).trans (hcb x2 (by rw [HBL.out]; exact hlx)), by rw [← hy0]; exact (hb.cell (p := ⟨bi, oi + x2, none⟩) hbi).trans (hci x2 (by rw [HIL.out]; exact hlx)), by rw [← ht0]; exact (hb.cell (p := ⟨bz, oz + x2, none⟩) hbz).trans (hcz x2 (by rw [HZL.out]; exact hlx))⟩)
              generalize ks.getD x2 0 = kk at dk HMN
              have HR4 := Lib.hid hr4
              have HCM := Lib.hid hcom
              clear hck hcb hci hcz hox hxx hrow hk3 hx0 hy0 ht0 hr4 hcom hb4x
              go_wp2_with fail
              refine (HMN.out wr).mono ?_
              rintro e w' ⟨rfl, h⟩
              subst w'
              clear dk
              rcases h3 with rfl | rfl | rfl
              · rcases HCM.out with ⟨_, hte, g, rfl⟩ | ⟨hte0, g, rfl, hgr⟩
                · have HROW := HR4
                  have HTE := hte
                  go_wp2_with fail
                  refine (zzFodderAt N gv n cv x2 _ rfl L8 _ HAx.out T2.out hlx (by omega) (some ⟨g, 0, none⟩) 0 0 0 x y HROW.out).mono ?_
                  rintro e w10 ⟨rfl, hb10⟩
                  have hb11 : Below wo.heap.size wo w10 := hbx.trans (hb10.mono (by omega))
                  have db' : w10.cell? ⟨bb, ob + x2, none⟩ = some (.int .i64 x) := (HB10.out w10 hb11).1
                  have di' : w10.cell? ⟨bi, oi + x2, none⟩ = some (.int .i64 y) := (HB10.out w10 hb11).2.1
                  have dz' : w10.cell? ⟨bz, oz + x2, none⟩ = some (.string t) := (HB10.out w10 hb11).2.2
                  go_wp2_with fail
                  refine (fodKind0 w10).mono ?_
                  rintro e w' ⟨rfl, h⟩
                  subst w'
                  go_wp2_with fail
                  go_quiet (fail)
                  go_wp2
                  go_roundw
                  case rel => exact ⟨x2 + 1, by omega, by go_num, drewN_below hb11 _⟩
                  case measure => simp [intOf]; omega
                · have hte : t.toList.isEmpty = false := by
                    cases h : t.toList.isEmpty with
                    | true => exact absurd ⟨rfl, h⟩ hte0
                    | false => rfl
                  have HROW := HR4
                  have HGR := Lib.hid hgr
                  clear hgr hte0
                  go_wp2_with fail
                  refine (zzFodderAt N gv n cv x2 _ rfl L8 _ HAx.out T2.out hlx (by omega) (some ⟨g, 0, none⟩) 1 1 0 x y HROW.out).mono ?_
                  rintro e w10 ⟨rfl, hb10⟩
                  have hb11 : Below wo.heap.size wo w10 := hbx.trans (hb10.mono (by omega))
                  have db' : w10.cell? ⟨bb, ob + x2, none⟩ = some (.int .i64 x) := (HB10.out w10 hb11).1
                  have di' : w10.cell? ⟨bi, oi + x2, none⟩ = some (.int .i64 y) := (HB10.out w10 hb11).2.1
                  have dz' : w10.cell? ⟨bz, oz + x2, none⟩ = some (.string t) := (HB10.out w10 hb11).2.2
                  go_wp2_with fail
                  refine (fodKind0 w10).mono ?_
                  rintro e w' ⟨rfl, h⟩
                  subst w'
                  go_wp2_with fail
                  go_quiet (fail)
                  have dz'' : (w10.drewN nq).cell? ⟨bz, oz + x2, none⟩ = some (.string t) := dz'
                  have hgr : (w10.drewN nq).heap[g]? = some (.cells #[.string t] 9 (0, 0)) := (hb10.block g (Array.getElem?_eq_some_iff.1 HGR.out).1).trans HGR.out
                  have hb12 : Below wo.heap.size wo (w10.drewN nq) := drewN_below hb11 nq
                  clear db' di' dz'
                  generalize w10.drewN nq = w11 at dz'' hgr hb12 ⊢
                  have HGR2 := Lib.hid hgr
                  clear hgr
                  go_wp2_with fail
                  refine (sameOne g w11.heap.size 1 t _ ((cell_of_row _ _ 0 _ _ _ ((Below.heap_alloc w11 _ g (Array.getElem?_eq_some_iff.1 HGR2.out).1).trans HGR2.out)).trans rfl) ((cell_of_row _ _ 0 _ _ _ (heap_alloc_new w11 _)).trans rfl)).mono ?_
                  rintro e w' ⟨rfl, m13, h⟩
                  subst w'
                  have hb13 : Below wo.heap.size wo ((w11.alloc (.cells #[.string t] 9 (0, 0))).drewN m13) := drewN_below (hb12.alloc hb12.size _) m13
                  go_wp2
                  go_roundw
                  case rel => exact ⟨x2 + 1, by omega, by go_num, hb13⟩
                  case measure => simp [intOf]; omega
              · obtain ⟨g, rfl, hgr⟩ : ∃ g, com = .slice (some ⟨g, 0, none⟩) 1 1 ∧ wr.heap[g]? = some (.cells #[.string t] 9 (0, 0)) := by
                  rcases HCM.out with ⟨h, _⟩ | ⟨_, h⟩
                  · exact absurd h (by decide)
                  · exact h
                have HROW := HR4
                have HGR := Lib.hid hgr
                clear hgr
                go_wp2_with fail
                refine (zzFodderAt N gv n cv x2 _ rfl L8 _ HAx.out T2.out hlx (by omega) (some ⟨g, 0, none⟩) 1 1 1 0 0 HROW.out).mono ?_
                rintro e w10 ⟨rfl, hb10⟩
                have hb11 : Below wo.heap.size wo w10 := hbx.trans (hb10.mono (by omega))
                have db' : w10.cell? ⟨bb, ob + x2, none⟩ = some (.int .i64 x) := (HB10.out w10 hb11).1
                have di' : w10.cell? ⟨bi, oi + x2, none⟩ = some (.int .i64 y) := (HB10.out w10 hb11).2.1
                have dz' : w10.cell? ⟨bz, oz + x2, none⟩ = some (.string t) := (HB10.out w10 hb11).2.2
                go_wp2_with fail
                refine (fodKind1 w10).mono ?_
                rintro e w' ⟨rfl, h⟩
                subst w'
                go_wp2_with fail
                go_quiet (fail)
                have dz'' : (w10.drewN nq).cell? ⟨bz, oz + x2, none⟩ = some (.string t) := dz'
                have hgr : (w10.drewN nq).heap[g]? = some (.cells #[.string t] 9 (0, 0)) := (hb10.block g (Array.getElem?_eq_some_iff.1 HGR.out).1).trans HGR.out
                have hb12 : Below wo.heap.size wo (w10.drewN nq) := drewN_below hb11 nq
                clear db' di' dz'
                generalize w10.drewN nq = w11 at dz'' hgr hb12 ⊢
                have HGR2 := Lib.hid hgr
                clear hgr
                go_wp2_with fail
                refine (sameOne g w11.heap.size 1 t _ ((cell_of_row _ _ 0 _ _ _ ((Below.heap_alloc w11 _ g (Array.getElem?_eq_some_iff.1 HGR2.out).1).trans HGR2.out)).trans rfl) ((cell_of_row _ _ 0 _ _ _ (heap_alloc_new w11 _)).trans rfl)).mono ?_
                rintro e w' ⟨rfl, m13, h⟩
                subst w'
                have hb13 : Below wo.heap.size wo ((w11.alloc (.cells #[.string t] 9 (0, 0))).drewN m13) := drewN_below (hb12.alloc hb12.size _) m13
                go_wp2
                go_roundw
                case rel => exact ⟨x2 + 1, by omega, by go_num, hb13⟩
                case measure => simp [intOf]; omega
              · obtain ⟨g, rfl, hgr⟩ : ∃ g, com = .slice (some ⟨g, 0, none⟩) 1 1 ∧ wr.heap[g]? = some (.cells #[.string t] 9 (0, 0)) := by
                  rcases HCM.out with ⟨h, _⟩ | ⟨_, h⟩
                  · exact absurd h (by decide)
                  · exact h
                have HROW := HR4
                have HGR := Lib.hid hgr
                clear hgr
                go_wp2_with fail
                refine (zzFodderAt N gv n cv x2 _ rfl L8 _ HAx.out T2.out hlx (by omega) (some ⟨g, 0, none⟩) 1 1 2 x y HROW.out).mono ?_
                rintro e w10 ⟨rfl, hb10⟩
                have hb11 : Below wo.heap.size wo w10 := hbx.trans (hb10.mono (by omega))
                have db' : w10.cell? ⟨bb, ob + x2, none⟩ = some (.int .i64 x) := (HB10.out w10 hb11).1
                have di' : w10.cell? ⟨bi, oi + x2, none⟩ = some (.int .i64 y) := (HB10.out w10 hb11).2.1
                have dz' : w10.cell? ⟨bz, oz + x2, none⟩ = some (.string t) := (HB10.out w10 hb11).2.2
                go_wp2_with fail
                refine (fodKind2 w10).mono ?_
                rintro e w' ⟨rfl, h⟩
                subst w'
                go_wp2_with fail
                go_quiet (fail)
                have dz'' : (w10.drewN nq).cell? ⟨bz, oz + x2, none⟩ = some (.string t) := dz'
                have hgr : (w10.drewN nq).heap[g]? = some (.cells #[.string t] 9 (0, 0)) := (hb10.block g (Array.getElem?_eq_some_iff.1 HGR.out).1).trans HGR.out
                have hb12 : Below wo.heap.size wo (w10.drewN nq) := drewN_below hb11 nq
                clear db' di' dz'
                generalize w10.drewN nq = w11 at dz'' hgr hb12 ⊢
                have HGR2 := Lib.hid hgr
                clear hgr
                go_wp2_with fail
                refine (sameOne g w11.heap.size 1 t _ ((cell_of_row _ _ 0 _ _ _ ((Below.heap_alloc w11 _ g (Array.getElem?_eq_some_iff.1 HGR2.out).1).trans HGR2.out)).trans rfl) ((cell_of_row _ _ 0 _ _ _ (heap_alloc_new w11 _)).trans rfl)).mono ?_
                rintro e w' ⟨rfl, m13, h⟩
                subst w'
                have hb13 : Below wo.heap.size wo ((w11.alloc (.cells #[.string t] 9 (0, 0))).drewN m13) := drewN_below (hb12.alloc hb12.size _) m13
                go_wp2
                go_roundw
                case rel => exact ⟨x2 + 1, by omega, by go_num, hb13⟩
                case measure => simp [intOf]; omega
            · obtain rfl : n = x2 := by omega
              go_wp2_with fail
              refine (zzPos N L8 _ HAx.out).mono ?_
              rintro e w' ⟨rfl, m11, rfl⟩
              rw [T6.out.1, T6.out.2.1, T6.out.2.2.1]
              go_wp2_with fail
              refine (zzTokenStart N L8 (wr.drewN m11) (show LexAt wr N L8 from HAx.out)).mono ?_
              rintro e w' ⟨rfl, m12, rfl⟩
              rw [T6.out.2.2.2.1, T6.out.2.2.2.2.1, T6.out.2.2.2.2.2]
              go_wp2
              go_ret
              exact ⟨rfl, drewN_below (hbo.trans (hbx.mono hbo.size)) _⟩

end Go.Proofs.YtkciiihffnimpaaFmt.fnAddFodderRecordsScript
