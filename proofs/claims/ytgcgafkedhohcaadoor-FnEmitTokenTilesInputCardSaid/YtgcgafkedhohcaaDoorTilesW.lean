/-
  The walk of FnEmitTokenTilesInput, the calls.
-/
import Derived.Test.YtgcgafkedhohcaaDoorTilesA
namespace Go.Proofs.YtgcgafkedhohcaaDoor.fnEmitTokenTilesInput
open Go Go.RowKit Go.Shelf

set_option maxRecDepth 100000 in
theorem early (s : ByteArray) (a : Option Addr) (n c : Nat) (w : World) (hs : s.size ≤ maxLen) (hn : n ≤ maxLen) (h : 1048576 < s.size + n ∨ 65536 < n ∨ 1048576 < s.size + 8 * n) :
    Calls Tryd.prog 7 #[.string s, .slice a n c] w fun e w' => e = .returned (.bool true) ∧ Below w.heap.size w w' := by
  by_cases hz : 1048576 < s.size + n
  · go_enter Tryd.func7, Tryd.ntmps7
    go_wp2_with (go_at_call 36; refine (bytes_no s a n c _ hs hn hz).mono ?_; rintro e w' ⟨rfl, rfl⟩)
    go_ret
    exact ⟨rfl, Below.refl _ _⟩
  have hz' : s.size + n ≤ 1048576 := by omega
  by_cases h1 : 65536 < n
  · clear hs hn h hz
    go_enter Tryd.func7, Tryd.ntmps7
    go_wp2_with (go_at_call 36; refine (bytes_ok s a n c _ hz').mono ?_; rintro e w' ⟨rfl, rfl⟩)
    all_goals go_ret
    all_goals exact ⟨rfl, Below.refl _ _⟩
  have h2 : 1048576 < s.size + 8 * n := by omega
  have h1' : n ≤ 65536 := by omega
  clear hs hn h hz h1
  go_enter Tryd.func7, Tryd.ntmps7
  go_wp2_with (go_at_call 36; refine (bytes_ok s a n c _ hz').mono ?_; rintro e w' ⟨rfl, rfl⟩)
  all_goals go_ret
  all_goals exact ⟨rfl, Below.refl _ _⟩

set_option maxHeartbeats 3200000 in
set_option maxRecDepth 100000 in
theorem core (s : ByteArray) (a : Option Addr) (n c : Nat) (zs : List Int) (w : World) (hi : IntsAt w w.heap.size (.slice a n c) zs) (hl : zs.length = n) (h1 : n ≤ 65536) (h2 : s.size + 8 * n ≤ 1048576) (hT : Lib.Utf8Tabs 0 1 w) :
    Calls Tryd.prog 7 #[.string s, .slice a n c] w fun e w' => e = .returned (.bool true) ∧ Below w.heap.size w w' := by
  obtain ⟨g0, g1⟩ := tabs_lt hT
  have HT := Lib.hid hT
  have HI := Lib.hid hi
  have HL := Lib.hid hl
  clear hT hi hl
  go_enter Tryd.func7, Tryd.ntmps7
  go_wp2_with fail
  refine (bytes_ok s a n c _ (by omega)).mono ?_
  rintro e w' ⟨rfl, rfl⟩
  go_wp2
  go_loopw [5, 6] (fun sm i wr => ∃ (k m : Nat), k ≤ n ∧ i = .int .i64 k ∧ sm = .int .i64 (sumTo zs k) ∧ 0 ≤ sumTo zs k ∧ sumTo zs k ≤ 65536 * k ∧ Hid (∀ j, j < k → 0 ≤ zs.getD j 0 ∧ zs.getD j 0 ≤ 65536) ∧ wr = w.drewN m) (fun _ i _ => n - (intOf i).toNat)
  case atStart => exact ⟨0, 0, Nat.zero_le _, rfl, rfl, by simp [sumTo], by simp [sumTo], Lib.hid (fun j hj => absurd hj (by omega)), rfl⟩
  case round =>
    obtain ⟨k, m, hk, rfl, rfl, hs0, hs1, HZ, rfl⟩ := hrel
    by_cases hlt : k < n
    · obtain ⟨b, off, rfl, hb, hcc⟩ := HI.out.cell (k := k) (by rw [HL.out]; exact hlt)
      have hc1 := hcc k (by rw [HL.out]; exact hlt)
      have HS : Hid (sumTo zs (k + 1) = sumTo zs k + zs.getD k 0) := Lib.hid rfl
      have HZ2 : 0 ≤ zs.getD k 0 → zs.getD k 0 ≤ 65536 → ∀ j, j < k + 1 → 0 ≤ zs.getD j 0 ∧ zs.getD j 0 ≤ 65536 := fun z0 z1 j hj => by
        by_cases hjk : j < k
        · exact HZ.out j hjk
        · obtain rfl : j = k := by omega
          exact ⟨z0, z1⟩
      have HZ3 := Lib.hid HZ2
      clear hcc HZ2
      generalize zs.getD k 0 = z at hc1 HS HZ3
      have hc1' : (w.drewN m).cell? ⟨b, off + k, none⟩ = some (.int .i64 z) := hc1
      clear hc1
      by_cases z0 : z < 0
      · go_wp2_with fail
        go_wp2
        go_ret
        exact ⟨rfl, drewN_below (Below.refl _ _) _⟩
      have z0' : decide (z < 0) = false := decide_eq_false z0
      by_cases z1 : 65536 < z
      · go_wp2_with fail
        go_wp2
        go_ret
        exact ⟨rfl, drewN_below (Below.refl _ _) _⟩
      have z1' : decide (65536 < z) = false := decide_eq_false z1
      have z2 : 0 ≤ z := by omega
      have z3 : z ≤ 65536 := by omega
      go_wp2
      go_roundw
      case rel => exact ⟨k + 1, m, by omega, by go_num, by rw [HS.out], by rw [HS.out]; omega, by rw [HS.out]; omega, Lib.hid (HZ3.out z2 z3), rfl⟩
      case measure => simp [intOf]; omega
    · obtain rfl : k = n := by omega
      by_cases hsum : 1048576 < sumTo zs k
      · go_wp2
        go_ret
        exact ⟨rfl, drewN_below (Below.refl _ _) _⟩
      have hsum' : decide (1048576 < sumTo zs k) = false := decide_eq_false hsum
      go_wp2_with fail
      refine (copyInts _ zs _ (by exact HI.out.drewN m) (by rw [HL.out]; omega)).mono ?_
      rintro e w1 ⟨v', rfl, hi1, hb1⟩
      obtain ⟨a1, c1, rfl, _⟩ := hi1.len
      rw [HL.out] at hi1 ⊢
      have HI1 := Lib.hid hi1
      have hb1' : Below w.heap.size w w1 := ⟨hb1.os, hb1.tape, hb1.output, hb1.size, hb1.block⟩
      have hsz1 := hb1'.size
      have HT1 := Lib.hid (tabs_below HT.out hb1' g0 g1)
      clear hi1 hb1 HI HT
      go_wp2_with fail
      refine (zzMake s (by omega) _).mono ?_
      rintro e w2 ⟨N, M, rfl, hN, hAt, hb2⟩
      have HA2 := Lib.hid hAt
      have HX : Hid (Toks s zs M w1.heap.size 0 (initSt ⟨#[]⟩ ⟨#[]⟩ s (.pointer (some ⟨M, 0, none⟩))) w2) := Lib.hid ⟨[], World.ownsRow_nil _ _ _ _, fun j hj => absurd hj (by omega)⟩
      have HV : Hid (TInv s zs M N 0 (initSt ⟨#[]⟩ ⟨#[]⟩ s (.pointer (some ⟨M, 0, none⟩)))) := Lib.hid ⟨inv_init _ _ _ _, rfl, rfl, rfl, rfl, rfl, ⟨none, 0, rfl⟩, by simp [initSt, Value.ownBlock]⟩
      clear hAt
      go_wp2
      go_loopw [8] (fun i wr => ∃ (q : Nat) (L : LexSt), q ≤ k ∧ i = .int .i64 q ∧ Hid (LexAt wr N L) ∧ Hid (TInv s zs M N q L) ∧ Hid (Toks s zs M w1.heap.size q L wr) ∧ Below w1.heap.size w1 wr) (fun i _ => k - (intOf i).toNat)
      case atStart => exact ⟨0, _, Nat.zero_le _, rfl, HA2, HV, HX, hb2⟩
      case round =>
        obtain ⟨q, L, hq, rfl, HAt, HVq, HXq, hbw⟩ := hrel
        clear HA2 HV HX hb2
        have hsw := hbw.size
        have HTw := Lib.hid (tabs_below HT1.out hbw (by omega) (by omega))
        have HIw := Lib.hid (HI1.out.below hbw)
        have htq := tpos_le s zs q
        by_cases hlt : q < k
        · obtain ⟨b, off, rfl, hb, hcc⟩ := HIw.out.cell (k := q) (by rw [HL.out]; exact hlt)
          obtain ⟨z0, z1⟩ := HZ.out q hlt
          obtain ⟨zn, hzn⟩ := Int.eq_ofNat_of_zero_le z0
          have hc1 := hcc q (by rw [HL.out]; exact hlt)
          rw [hzn] at hc1 z1
          have HZN := Lib.hid hzn
          have hzn' : zn ≤ 65536 := by omega
          obtain ⟨f1, f2, f3, f4, f5, f6, f7, f8, f9, f10⟩ := steps_facts HVq.out zn hzn
          have F1 := Lib.hid f1
          have F2 := Lib.hid f2
          have F3 := Lib.hid f3
          have F4 := Lib.hid f4
          have F5 := Lib.hid (And.intro f5 f6)
          have F7 := Lib.hid f7
          have F8 := Lib.hid f8
          clear hcc hzn z0 z1 f1 f2 f3 f4 f5 f6 f7 f8
          obtain ⟨wo, rfl⟩ : ∃ wo : World, wo = wr := ⟨_, rfl⟩
          have HC1 := Lib.hid hc1
          clear hc1
          go_wp2
          go_loopw [9] (fun c' wr => ∃ r : Nat, r ≤ zn ∧ c' = .int .i64 r ∧ Hid (LexAt wr N (L.steps r)) ∧ wo.grownBy wr (some N)) (fun c' _ => zn - (intOf c').toNat)
          case atStart => exact ⟨0, Nat.zero_le _, rfl, HAt, World.grownBy.refl wo _⟩
          case round =>
            obtain ⟨r, hr, rfl, HAr, hgr⟩ := hrel
            have hsr := hgr.size
            have hbr : Below w1.heap.size w1 wr := hbw.trans (below_of_grown hgr hN (by omega))
            have hc2 : wr.cell? ⟨b, off + q, none⟩ = some (.int .i64 zn) := (hbr.cell (p := ⟨b, off + q, none⟩) hb).trans ((hbw.cell (p := ⟨b, off + q, none⟩) hb).symm.trans HC1.out)
            have HTr := Lib.hid (tabs_below HT1.out hbr (by omega) (by omega))
            by_cases hrz : r < zn
            · have hinv := HVq.out.inv.steps r
              generalize hL : L.steps r = L2 at HAr hinv
              have HL2 := Lib.hid hL
              have HI2 := Lib.hid hinv
              clear hL hinv
              go_wp2_with fail
              refine (zzNext N L2 _ HAr.out (by rw [HI2.out.inp]; omega) (HI2.out.lnb (by omega)).1 (HI2.out.lnb (by omega)).2 HTr.out).mono ?_
              rintro e w5 ⟨rfl, ha2, hg2⟩
              have HA2 := Lib.hid ha2
              clear ha2
              go_wp2
              go_roundw
              case rel =>
                refine ⟨r + 1, by omega, by go_num, ?_, hgr.trans hg2⟩
                have := HA2.out
                rw [← HL2.out] at this
                exact this
              case measure => simp [intOf]; omega
            · obtain rfl : r = zn := by omega
              have HXr := Lib.hid (HXq.out.same (w' := wr) fun g hg => hgr.block g (HXq.out.lt g hg) (fun e => HVq.out.own (by rw [hg, e])))
              have hlsb := (HVq.out.inv.steps r).lsb
              obtain ⟨fp, fc, hfod⟩ := HVq.out.fod
              have HFOD := Lib.hid hfod
              clear hfod
              obtain ⟨xs, hox, hxx⟩ := HXr.out
              have HOX := Lib.hid hox
              have HXX := Lib.hid hxx
              clear hox hxx
              go_wp2_with fail
              refine (zzEmitToken N (L.steps r) 10 w1.heap.size q xs wr HAr.out _ F1.out fp 0 fc (F2.out.trans HFOD.out) (by rw [F3.out]; exact HOX.out) (by rw [F3.out]; exact HVq.out.own) (by omega) (by omega) (by rw [F8.out]; omega) hlsb.1 hlsb.2 (tpos s zs q) F4.out (by rw [F8.out]; exact f9) (by rw [F8.out, F7.out]; exact f10) (by omega) (by omega)).mono ?_
              rintro e w7 ⟨rfl, g, cap, M2, hL7, hown7, hga, hg7, hk7⟩
              have hb7 : Below w1.heap.size w1 w7 := hbr.trans (Kept.below hk7 (fun i hi => by
                rcases hi with hi | hi
                · rw [hi]; exact hN
                · rw [F3.out] at hi; exact own_base HOX.out i hi) (by omega))
              have HX7 := Lib.hid (toks_step HVq.out (HVq.out.inv.steps r) F8.out ⟨F1.out.trans HVq.out.src.symm, F2.out, F5.out.1, F5.out.2⟩ HOX.out.1 HXX.out hown7)
              have HV7 := Lib.hid (tinv_step HVq.out r HZN.out g cap (q + 1) M2 hga)
              have H7 := Lib.hid hL7
              clear hL7 hown7 hk7 hg7
              go_wp2
              go_roundw
              case rel => exact ⟨q + 1, _, by omega, by go_num, H7, HV7, HX7, hb7⟩
              case measure => simp [intOf]; omega
        · obtain rfl : q = k := by omega
          clear HIw HTw
          obtain ⟨wq, rfl⟩ : ∃ wq : World, wq = wr := ⟨_, rfl⟩
          obtain ⟨xs, hox, _⟩ := HXq.out
          obtain ⟨pt, ct, hpt⟩ := own_form hox
          have HPT := Lib.hid hpt
          clear hox hpt
          go_wp2_with fail
          refine (zzPos N L _ HAt.out).mono ?_
          rintro e w3 ⟨rfl, m3, rfl⟩
          rw [HVq.out.bn]
          go_wp2_with fail
          refine (zzTokensLen N L _ (by exact HAt.out) _ _ _ HPT.out).mono ?_
          rintro e w3 ⟨rfl, rfl⟩
          have hlt3 := HAt.out.lt
          go_wp2
          go_loopw [13, 14, 15, 16] (fun o pl pc i wr => ∃ p : Nat, p ≤ q ∧ i = .int .i64 p ∧ o = .int .i64 (tpos s zs p : Int) ∧ pl = .int .i64 (1 + (nlc s (tpos s zs p) : Int)) ∧ pc = .int .i64 ((tpos s zs p : Int) - nle s (tpos s zs p) + 1) ∧ Below wq.heap.size wq wr) (fun _ _ _ i _ => q - (intOf i).toNat)
          case atStart => exact ⟨0, Nat.zero_le _, rfl, rfl, rfl, rfl, drewN_below (Below.refl _ _) _⟩
          case round =>
            obtain ⟨p, hp, rfl, rfl, rfl, rfl, hbx⟩ := hrel
            have HAx := Lib.hid (show LexAt wr N L from (hbx.block N hlt3).trans HAt.out)
            by_cases hlp : p < q
            · have hmo := tpos_mono (tpos_le s zs p)
              have hn1 := nlc_le s (tpos s zs p)
              have hn2 := nle_le s (tpos s zs p)
              have hn3 := nlc_le s (tpos s zs (p + 1))
              have hn4 := nle_le s (tpos s zs (p + 1))
              obtain ⟨g, rfl⟩ : ∃ g, pt = some ⟨g, 0, none⟩ := by
                obtain ⟨xs, hox, _⟩ := HXq.out
                obtain ⟨g, cap, hv, _⟩ := hox.form (by omega)
                rw [HPT.out] at hv
                injection hv with h1
                exact ⟨g, h1⟩
              have HXx := HXq.out.same (w' := wr) fun g hg => hbx.block g (HXq.out.lt g hg)
              obtain ⟨fp, fc, im, hrow⟩ := HXx.row HPT.out hlp
              clear HXx
              obtain ⟨td, htd⟩ : ∃ td, td = s.extract (tpos s zs p) (tpos s zs (p + 1)) := ⟨_, rfl⟩
              rw [← htd] at hrow
              have htds : td.size = tpos s zs (p + 1) - tpos s zs p := by rw [htd, ByteArray.size_extract]; omega
              have hcut : s.extract (tpos s zs p) (tpos s zs p + td.size) = td := by rw [htds, htd, show tpos s zs p + (tpos s zs (p + 1) - tpos s zs p) = tpos s zs (p + 1) by omega]
              have hsum2 : (tpos s zs p : Int) + (td.size : Int) = (tpos s zs (p + 1) : Int) := by omega
              have HROW := Lib.hid hrow
              have HSM := Lib.hid hsum2
              have hle1 : (tpos s zs p : Int) + (td.size : Int) ≤ (s.size : Int) := by omega
              have hle2 : tpos s zs p + td.size ≤ s.size := by omega
              clear hrow htd htds hsum2
              go_wp2_with fail
              refine (zzTokenAt N g q ct p L _ (by exact HAx.out) HPT.out hlp _ _ _ _ _ _ _ _ _ _ _ _ _ (by exact HROW.out) (by omega)).mono ?_
              rintro e w8 ⟨rfl, hb8⟩
              have hsz7 := HAx.out.lt
              have hg7 : g < wr.heap.size := World.block_lt_of_cell? wr ⟨g, p * 11 + 0, none⟩ (HROW.out 0 (by omega))
              have H8 := Lib.hid (show LexAt w8 N L from (hb8.block N hsz7).trans HAx.out)
              have HROW8 := Lib.hid (fun j (hj : j < 11) => (hb8.cell (p := ⟨g, p * 11 + j, none⟩) hg7).trans (HROW.out j hj))
              have hb8' : Below wq.heap.size wq w8 := hbx.trans (hb8.mono (by have := hbx.size; omega))
              clear hb8 HROW hsz7 hg7
              go_wp2_with fail
              refine (zzTokenLoc N g q ct p L _ (by exact H8.out) HPT.out hlp _ _ _ _ _ _ _ _ _ _ _ _ _ (by exact HROW8.out) (by omega)).mono ?_
              rintro e w9 ⟨rfl, hb9⟩
              have hb9' : Below wq.heap.size wq w9 := hb8'.trans (hb9.mono (by have := hb8'.size; omega))
              clear hb9 hb8' HROW8 H8
              go_wp2_with fail
              refine (lineColI s _ (tpos s zs (p + 1)) HSM.out hmo.2 (by omega) _).mono ?_
              rintro e w9 ⟨rfl, rfl⟩
              go_wp2
              go_roundw
              case rel => exact ⟨p + 1, by omega, by go_num, by rw [HSM.out], rfl, rfl, hb9'⟩
              case measure => simp [intOf]; omega
            · obtain rfl : p = q := by omega
              go_wp2_with fail
              refine (zzTokenStart N L _ HAx.out).mono ?_
              rintro e w10 ⟨rfl, m10, rfl⟩
              rw [HVq.out.ts]
              go_wp2
              go_ret
              exact ⟨rfl, drewN_below (hb1'.trans ((hbw.mono hsz1).trans (hbx.mono (by omega)))) _⟩

set_option maxRecDepth 100000 in
theorem walk {H : Type} {enc : TypeId × Value → H} {r : Reach} {b0 : Nat} (s : ByteArray) (v1 : Value) (d1 : DataW H) (p1 : List MemPlace) (w : World) (hs : s.size ≤ maxLen)
    (hv : Value.okWide Tryd.prog w r b0 45 v1) (h1 : DataW.Trod enc Tryd.prog w 0 (fun _ => true) true 45 v1 d1 p1) (hL : laidMetH Tryd.prog Rows.fnEmitTokenTilesInputRow.laid w) :
    Calls Tryd.prog 7 #[.string s, v1] w fun e w' => e = .returned (.bool true) ∧ Below w.heap.size w w' := by
  have hT := tabs_of_laid (by kernel_rfl) (by simp [Rows.fnEmitTokenTilesInputRow]) (by simp [Rows.fnEmitTokenTilesInputRow]) hL
  clear hL
  obtain ⟨zs, hi, _⟩ := ints_open Tryd.underlying45 Tryd.underlying3 (by kernel_rfl) hv h1
  obtain ⟨a, c, rfl, hn⟩ := hi.len
  by_cases hz : 1048576 < s.size + zs.length ∨ 65536 < zs.length ∨ 1048576 < s.size + 8 * zs.length
  · exact early s a zs.length c w hs hn hz
  · exact core s a zs.length c zs w hi rfl (by omega) (by omega) hT

end Go.Proofs.YtgcgafkedhohcaaDoor.fnEmitTokenTilesInput
