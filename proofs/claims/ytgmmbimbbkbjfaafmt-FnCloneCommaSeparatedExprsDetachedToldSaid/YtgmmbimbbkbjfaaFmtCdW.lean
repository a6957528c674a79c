/-
  The walk of FnCloneCommaSeparatedExprsDetached.
-/
import Derived.Test.YtgmmbimbbkbjfaaFmtCdB
import Derived.Laws.Concat
import Derived.Lib.Builder
import Derived.Deep.RegionHeld3
import Derived.Deep.DrawnRows
import Derived.Deep.QuietTactic
import Derived.BigQuiet
namespace Go.Proofs.YtgmmbimbbkbjfaaFmt.fnCloneCommaSeparatedExprsDetached
open Go Go.RowKit
attribute [local go_sem ↓] Go.wp_at_zero Go.wp_at_succ

theorem infoVarP : (Tryf.prog.info? 40).map (fun i => (i.zero, i.size, i.bytes)) = some (some (.pointer none), 1, 8) := by kernel_rfl
theorem cseMade {w : World} {g n : Nat} (h : w.ownsRow g 63 2 (.slice (some ⟨g, 0, none⟩) n n) n (madeCells (Value.agg #[.nilIface, .slice none 0 0]).cells (n * 2)).toList) : CseRow w g n (fun _ => .nilIface) nilF := by
  rcases h.2 with ⟨hv, _⟩ | ⟨g', cap, cur, hv, _, hh, _⟩
  · cases hv
  · cases hv
    refine ⟨cur, hh, fun i hi => ?_⟩
    have h0 := h.cellAt (i * 2) (by omega)
    have h1 := h.cellAt (i * 2 + 1) (by omega)
    rw [cell_of_row _ _ _ _ _ _ hh] at h0 h1
    rw [h0, h1]
    constructor
    · simp [madeCells, Value.cells, List.getElem?_map, List.getElem?_range (show i * 2 < n * 2 by omega)]
    · have e : (i * 2 + 1) % 2 = 1 := by omega
      simp [madeCells, Value.cells, List.getElem?_map, List.getElem?_range (show i * 2 + 1 < n * 2 by omega), e, nilF]
theorem varMade {w : World} {g n : Nat} (h : w.ownsRow g 40 1 (.slice (some ⟨g, 0, none⟩) n n) n (madeCells (Value.pointer none).cells (n * 1)).toList) : ∃ D : Array Value, w.heap[g]? = some (.cells D 40 (0, 0)) ∧ ∀ i, i < n → D[i]? = some (.pointer none) := by
  rcases h.2 with ⟨hv, _⟩ | ⟨g', cap, cur, hv, _, hh, _⟩
  · cases hv
  · cases hv
    refine ⟨cur, hh, fun i hi => ?_⟩
    have h0 := h.cellAt i (by omega)
    rw [cell_of_row _ _ _ _ _ _ hh] at h0
    rw [h0]
    have := toList_madeCells_one (.pointer none) n
    simp only [Value.cells, Nat.mul_one] at this ⊢
    rw [this, List.getElem?_replicate, if_pos hi]

set_option maxHeartbeats 3200000 in
set_option maxRecDepth 100000 in
theorem walk_main (a : Option Addr) (n c : Nat) (zs : List ByteArray) (pa : Option Addr) (m pc : Nat) (f : Nat → Bool) (w : World) (hi : StrsAt w w.heap.size (.slice a n c) zs) (hl : zs.length = n) (hn : n ≤ maxLen) (hz : ∀ i, i < n → (zs.getD i ByteArray.empty).size ≤ maxLen) (hp : BoolsAt w w.heap.size (.slice pa m pc) m f) (hm : m ≤ maxLen) :
    Calls Tryf.prog 4 #[.slice a n c, .slice pa m pc] w fun e w' => e = .returned (.bool true) ∧ Below w.heap.size w w' := by
  obtain ⟨i0, hi0, hz0, hz1, hz2⟩ := info_parts infoCse
  obtain ⟨j0, hj0, hy0, hy1, hy2⟩ := info_parts infoVarP
  have HI := Lib.hid hi
  have HL := Lib.hid hl
  have HP := Lib.hid hp
  have HZ := Lib.hid (bytesAt a n c zs pa m pc w hi hl hn hm hz)
  clear hi hl hz hp
  unfold maxLen at hn hm
  go_enter Tryf.func4, Tryf.ntmps4
  go_wp2_with fail
  refine HZ.out.mono ?_
  rintro e w' ⟨⟨b, rfl, hb⟩, rfl⟩
  cases b with
  | false =>
    go_wp2
    go_ret
    exact ⟨rfl, Below.refl _ _⟩
  | true =>
  obtain ⟨hsum, hzz⟩ := hb rfl
  have HZZ := Lib.hid hzz
  clear hb hzz HZ
  by_cases e1 : 65536 < n
  · go_wp2
    go_ret
    exact ⟨rfl, Below.refl _ _⟩
  have d1 : decide (65536 < n) = false := decide_eq_false e1
  by_cases e2 : 65536 < m
  · go_wp2
    go_ret
    exact ⟨rfl, Below.refl _ _⟩
  have d2 : decide (65536 < m) = false := decide_eq_false e2
  go_wp2_with fail
  refine (strBytes a n c zs w HI.out HL.out (by omega) HZZ.out).mono ?_
  rintro e w' ⟨⟨S, rfl, hS, _⟩, rfl⟩
  by_cases e3 : 1048576 < S + m
  · go_wp2
    go_ret
    exact ⟨rfl, Below.refl _ _⟩
  go_wp2_with (first
    | (refine wpList_make_full _ rfl _ _ 60 rfl w.heap.size 63 i0 _ 2 Tryf.underlying60 hi0 hz0 hz1 .i64 .i64 _ _ n rfl rfl rfl rfl (by rw [hz2]; omega) (by unfold maxLen; omega) (Nat.le_refl _) ?_; intro w1 hown1 hg1;
        have HR1 := Lib.hid (cseMade hown1); have HB1 := Lib.hid ((Below.refl w.heap.size w).grown hg1 (Nat.le_refl _) (by simp)); clear hown1 hg1)
    | (refine wpList_make_full _ rfl _ _ 61 rfl w1.heap.size 40 j0 _ 1 Tryf.underlying61 hj0 hy0 hy1 .i64 .i64 _ _ n rfl rfl rfl rfl (by rw [hy2]; omega) (by unfold maxLen; omega) (Nat.le_refl _) ?_; intro w2 hown2 hg2;
        have HV2 := Lib.hid (varMade hown2); have HB2 := Lib.hid ((Below.refl w1.heap.size w1).grown hg2 (Nat.le_refl _) (by simp)); clear hown2 hg2))
  have hs1 := HB1.out.size
  have hs2 := HB2.out.size
  obtain ⟨ids, hids⟩ : ∃ ids : Nat → ByteArray, ids = fun i => zs.getD i ByteArray.empty := ⟨_, rfl⟩
  obtain ⟨P, hPP⟩ : ∃ P : Nat → Bool, P = fun i => decide (i < m) && f i := ⟨_, rfl⟩
  have HIDS := Lib.hid hids
  have HPP := Lib.hid hPP
  clear hids hPP
  have hMk : Hid (∃ b, MkSt w w2 w.heap.size w1.heap.size n 0 ids P b) := Lib.hid ⟨fun _ => 0, by
      obtain ⟨C, hC, hc⟩ := HR1.out
      refine ⟨⟨C, (HB2.out.block _ (Array.getElem?_eq_some_iff.1 hC).1).trans hC, fun i hi => ⟨by rw [(hc i hi).1]; simp [vals], (hc i hi).2⟩⟩, ?_, fun i hi => absurd hi (by omega), HB1.out.trans (HB2.out.mono hs1), Nat.le_refl _, hs1⟩
      obtain ⟨D, hD, hd⟩ := HV2.out
      exact ⟨D, hD, fun i hi => by rw [hd i hi]; simp [ptrs]⟩⟩
  clear HR1 HB1 HV2 HB2
  go_loopw [7] (fun i wr => ∃ q : Nat, q ≤ n ∧ i = .int .i64 q ∧ Hid (∃ b, MkSt w wr w.heap.size w1.heap.size n q ids P b)) (fun i _ => n - (intOf i).toNat)
  case atStart => exact ⟨0, Nat.zero_le _, rfl, hMk⟩
  case round =>
    obtain ⟨q, hq, rfl, HM⟩ := hrel
    by_cases hlt : q < n
    · obtain ⟨b, hmk⟩ := HM.out
      have HMK := Lib.hid hmk
      clear hmk HM
      by_cases hqm : q < m
      · obtain ⟨pb, po, rfl, hpb, hpc⟩ := HP.out.cell hqm
        have hpq : wr.cell? ⟨pb, po + q, none⟩ = some (.bool (f q)) := (HMK.out.below.cell (p := ⟨pb, po + q, none⟩) hpb).trans (hpc q hqm)
        clear hpc
        cases hfq : f q with
        | false =>
          rw [hfq] at hpq
          have HS := Lib.hid (HMK.out.skip (by rw [HPP.out]; simp [hfq]))
          clear hfq
          go_wp2
          go_roundw
          case rel => exact ⟨q + 1, by omega, by go_num, Lib.hid ⟨_, HS.out⟩⟩
          case measure => simp [intOf]; omega
        | true =>
          rw [hfq] at hpq
          have hPq : Hid (P q = true) := Lib.hid (by rw [HPP.out]; simp [hfq, hqm])
          clear hfq
          obtain ⟨ib, io, rfl, hib, hic⟩ := HI.out.cell (k := q) (by rw [HL.out]; exact hlt)
          have hiq : wr.cell? ⟨ib, io + q, none⟩ = some (.string (ids q)) := by rw [HIDS.out]; exact (HMK.out.below.cell (p := ⟨ib, io + q, none⟩) hib).trans (hic q (by rw [HL.out]; exact hlt))
          clear hic
          obtain ⟨cv, fv⟩ := HMK.out.cellV hlt
          rw [show ptrs P b q q = .pointer none by simp [ptrs]] at cv
          obtain ⟨D, hD, hd⟩ := HMK.out.rowV
          have hVlt : w1.heap.size < wr.heap.size := (Array.getElem?_eq_some_iff.1 hD).1
          have hLlt : w.heap.size < wr.heap.size := by
            obtain ⟨C, hC, _⟩ := HMK.out.rowL
            exact (Array.getElem?_eq_some_iff.1 hC).1
          have HD := Lib.hid hD
          clear hD hd
          go_wp2_with fail
          generalize hX : (wr.setCell ⟨w1.heap.size, q, none⟩ (.pointer (some ⟨wr.heap.size, 0, none⟩))).alloc (.cells #[.string (ids q), .slice none 0 0, .pointer none, .slice none 0 0, .pointer none, .string ⟨#[]⟩, .int .i64 0, .int .i64 0, .int .i64 0, .int .i64 0] 43 (0, 0)) = X
          have hzs : (wr.setCell ⟨w1.heap.size, q, none⟩ (.pointer (some ⟨wr.heap.size, 0, none⟩))).heap.size = wr.heap.size := by simp [World.setCell]
          have xk : ∀ i, i < wr.heap.size → i ≠ w1.heap.size → X.heap[i]? = wr.heap[i]? := fun i h1 h2 => by rw [← hX, get_old (by omega)]; exact Below.heap_setCell _ ⟨w1.heap.size, q, none⟩ _ i h2
          have xV : X.heap[w1.heap.size]? = some (.cells (D.setIfInBounds q (ptrTo wr.heap.size)) 40 (0, 0)) := by rw [← hX, get_old (by omega)]; exact (Lib.heap_setCell_same HD.out _).trans rfl
          have xN : X.heap[wr.heap.size]? = some (.cells (varCells (ids q) n0) 43 (0, 0)) := by rw [← hX]; exact get_new hzs.symm
          have xs : X.heap.size = wr.heap.size + 1 := by rw [← hX]; simp [World.setCell]
          have xo : X.os = wr.os ∧ X.tape = wr.tape ∧ X.output = wr.output := by rw [← hX]; exact ⟨rfl, rfl, rfl⟩
          clear hX hiq cv fv hpq hzs
          refine (zzCseOfVar wr.heap.size X).mono ?_
          rintro e w5 ⟨rfl, hb5⟩
          have hz5 := hb5.size
          have hLV := HMK.out.ne
          have k5 : ∀ i, i < wr.heap.size + 1 → w5.heap[i]? = X.heap[i]? := fun i h1 => hb5.block i (by omega)
          obtain ⟨l0, l1, _, _⟩ := HMK.out.cellsL hlt
          rw [show vals P b q q = .nilIface by simp [vals]] at l0
          have l0' : w5.cell? ⟨w.heap.size, q * 2, none⟩ = some .nilIface := (World.cell?_of_block ((k5 _ (by show w.heap.size < _; omega)).trans (xk _ hLlt hLV))).trans l0
          have l1' : w5.cell? ⟨w.heap.size, q * 2 + 1, none⟩ = some (.slice none 0 0) := (World.cell?_of_block ((k5 _ (by show w.heap.size < _; omega)).trans (xk _ hLlt hLV))).trans l1
          obtain ⟨C, hC, _⟩ := HMK.out.rowL
          have hC5 : w5.heap[w.heap.size]? = some (.cells C 63 (0, 0)) := ((k5 _ (by omega)).trans (xk _ hLlt hLV)).trans hC
          have f0' : w5.frozen? ⟨w.heap.size, q * 2, none⟩ = false := frozen_of hC5 _
          have f1' : w5.frozen? ⟨w.heap.size, q * 2 + 1, none⟩ = false := frozen_of hC5 _
          have HS : Hid (∃ b', MkSt w ((w5.setCell ⟨w.heap.size, q * 2, none⟩ (.iface 40 (.pointer (some ⟨wr.heap.size, 0, none⟩)))).setCell ⟨w.heap.size, q * 2 + 1, none⟩ (.slice none 0 0)) w.heap.size w1.heap.size n (q + 1) ids P b') := Lib.hid (HMK.out.step hlt hPq.out wr.heap.size (Nat.le_refl _)
            (fun C2 hC2 => by
              rw [hC] at hC2
              cases hC2
              exact Lib.heap_setCell_same (Lib.heap_setCell_same hC5 _) _)
            (fun D2 hD2 => by
              rw [HD.out] at hD2
              cases hD2
              rw [Below.heap_setCell _ ⟨w.heap.size, q * 2 + 1, none⟩ _ _ (Ne.symm hLV), Below.heap_setCell _ ⟨w.heap.size, q * 2, none⟩ _ _ (Ne.symm hLV), k5 _ (by omega)]
              exact xV)
            (by
              rw [Below.heap_setCell _ ⟨w.heap.size, q * 2 + 1, none⟩ _ _ (by show wr.heap.size ≠ w.heap.size; omega), Below.heap_setCell _ ⟨w.heap.size, q * 2, none⟩ _ _ (by show wr.heap.size ≠ w.heap.size; omega), k5 _ (by omega)]
              exact xN)
            (fun i h1 h2 h3 => by
              rw [Below.heap_setCell _ ⟨w.heap.size, q * 2 + 1, none⟩ _ _ h2, Below.heap_setCell _ ⟨w.heap.size, q * 2, none⟩ _ _ h2, k5 _ (by omega)]
              exact xk i h1 h3)
            ⟨hb5.os.trans xo.1, hb5.tape.trans xo.2.1, hb5.output.trans xo.2.2, by simp [World.setCell]; omega⟩)
          clear xk xV xN xo hb5 k5 l0 l1 hC hC5 HD xs hLV
          go_wp2
          go_roundw
          case rel => exact ⟨q + 1, by omega, by go_num, HS⟩
          case measure => simp [intOf]; omega
      · have HS := Lib.hid (HMK.out.skip (by rw [HPP.out]; simp [hqm]))
        go_wp2
        go_roundw
        case rel => exact ⟨q + 1, by omega, by go_num, Lib.hid ⟨_, HS.out⟩⟩
        case measure => simp [intOf]; omega
    · obtain rfl : q = n := by omega
      obtain ⟨b, hmk⟩ := HM.out
      have HMK := Lib.hid hmk
      clear hmk HM
      go_wp2_with fail
      refine (zzClone (some ⟨w.heap.size, 0, none⟩) q q (vals P b q) nilF (leafOf ids P) wr (fun _ => ⟨_, rfl, HMK.out.rowL⟩) (fun h => by cases h) HMK.out.leaf (fun i hi => ⟨vals_one _ _ _ _, rfl⟩) (by omega)).mono ?_
      rintro e w3 ⟨g1, c1, u1, rfl, hg1, hr1, hn1, ha1, hb3⟩
      have H3 := Lib.hid (And.intro hg1 (And.intro hr1 (And.intro hn1 (And.intro ha1 hb3))))
      clear hg1 hr1 hn1 ha1 hb3
      go_wp2_with fail
      refine (zzClone (some ⟨w.heap.size, 0, none⟩) q q (vals P b q) nilF (leafOf ids P) w3 (fun _ => ⟨_, rfl, (HMK.out.up H3.out.2.2.2.2).rowL⟩) (fun h => by cases h) (HMK.out.up H3.out.2.2.2.2).leaf (fun i hi => ⟨vals_one _ _ _ _, rfl⟩) (by omega)).mono ?_
      rintro e w4 ⟨g2, c2, u2, rfl, hg2, hr2, hn2, ha2, hb4⟩
      have HD4 : Hid (DetSt w w4 w.heap.size w1.heap.size g1 g2 q 0 0 ids P b u1 u2) := Lib.hid (DetSt.init HMK.out H3.out.1 H3.out.2.1 H3.out.2.2.1 H3.out.2.2.2.1 H3.out.2.2.2.2 hg2 hr2 hn2 hb4)
      clear hg2 hr2 hn2 ha2 hb4 H3 HMK
      go_wp2
      go_loopw [10] (fun i wr => ∃ j : Nat, j ≤ q ∧ i = .int .i64 j ∧ Hid (DetSt w wr w.heap.size w1.heap.size g1 g2 q j j ids P b u1 u2)) (fun i _ => q - (intOf i).toNat)
      case atStart => exact ⟨0, Nat.zero_le _, rfl, HD4⟩
      case round =>
        obtain ⟨j, hj, rfl, HD⟩ := hrel
        by_cases hlt2 : j < q
        · by_cases hjm : j < m
          · obtain ⟨pb, po, rfl, hpb, hpc⟩ := HP.out.cell hjm
            have hpq : wr.cell? ⟨pb, po + j, none⟩ = some (.bool (f j)) := (HD.out.made.below.cell (p := ⟨pb, po + j, none⟩) hpb).trans (hpc j hjm)
            clear hpc
            cases hfj : f j with
            | false =>
              rw [hfj] at hpq
              have HPJ : Hid (P j = false) := Lib.hid (by rw [HPP.out]; simp [hfj])
              clear hfj
              obtain ⟨C, hC, hCs, hCc⟩ := HD.out.row1
              obtain ⟨r0, r1⟩ := hCc j (Nat.le_refl _) hlt2
              have k0 : wr.cell? ⟨g1, j * 2, none⟩ = some (u1 j) := (cell_of_row _ _ _ _ _ _ hC).trans r0
              have k1 : wr.cell? ⟨g1, j * 2 + 1, none⟩ = some (.slice none 0 0) := (cell_of_row _ _ _ _ _ _ hC).trans r1
              have z0 : wr.frozen? ⟨g1, j * 2, none⟩ = false := frozen_of hC _
              have z1 : wr.frozen? ⟨g1, j * 2 + 1, none⟩ = false := frozen_of hC _
              clear hC hCs hCc r0 r1
              go_wp2_with fail
              have hD8 := HD.out.weak.over HD.out.Vg rfl
              generalize (wr.setCell ⟨g1, j * 2, none⟩ .nilIface).setCell ⟨g1, j * 2 + 1, none⟩ (.slice none 0 0) = w8 at hD8 ⊢
              obtain ⟨m1, m2, _, _⟩ := hD8.made.cellsL hlt2
              rw [show vals P b q j = .nilIface by simp [vals, HPJ.out]] at m1
              have HD8 := Lib.hid hD8
              clear hD8 k0 k1 z0 z1 HD
              go_quiet (fail)
              go_wp2_with fail
              refine (zzCseNil none 0 0 _).mono ?_
              rintro e w9 ⟨rfl, hb9⟩
              have HD9 := Lib.hid ((HD8.out.drewN _).up hb9)
              clear hb9 HD8
              go_wp2
              go_roundw
              case rel => exact ⟨j + 1, by omega, by go_num, HD9⟩
              case measure => simp [intOf]; omega
            | true =>
              rw [hfj] at hpq
              have HPJ : Hid (P j = true) := Lib.hid (by rw [HPP.out]; simp [hfj, hjm])
              clear hfj
              obtain ⟨cb, nc, hu1, hcb⟩ := HD.out.var1 j (Nat.le_refl _) hlt2 HPJ.out
              obtain ⟨db, nd, hu2, hdb⟩ := HD.out.var2 j hlt2 HPJ.out
              have hcd : cb ≠ db := fun e => HD.out.cross j j hlt2 hlt2 cb (by rw [hu1]; rfl) (by rw [hu2, e]; rfl)
              obtain ⟨C, hC, hCs, hCc⟩ := HD.out.row1
              obtain ⟨r0, r1⟩ := hCc j (Nat.le_refl _) hlt2
              rw [hu1] at r0
              have k0 : wr.cell? ⟨g1, j * 2, none⟩ = some (.iface 40 (.pointer (some ⟨cb, 0, none⟩))) := (cell_of_row _ _ _ _ _ _ hC).trans r0
              have k1 : wr.cell? ⟨g1, j * 2 + 1, none⟩ = some (.slice none 0 0) := (cell_of_row _ _ _ _ _ _ hC).trans r1
              have HU1 := Lib.hid hu1
              have HU2 := Lib.hid hu2
              have hcs := (Array.getElem?_eq_some_iff.1 hcb).1
              have hds := (Array.getElem?_eq_some_iff.1 hdb).1
              have HCB := Lib.hid hcb
              have HDB := Lib.hid hdb
              clear hC hCs hCc r0 r1 hu1 hu2 hcb hdb
              go_wp2_with fail
              refine (zzCseVar cb none 0 0 wr).mono ?_
              rintro e w5 ⟨rfl, hb5⟩
              have HD5 := Lib.hid (HD.out.up hb5)
              have HB5 := Lib.hid hb5
              have hz5 := hb5.size
              obtain ⟨s0, s1, _, _⟩ := HD5.out.row2.cells hlt2
              rw [HU2.out] at s0
              have s0' : w5.cell? ⟨g2, j * 2, none⟩ = some (.iface 40 (.pointer (some ⟨db, 0, none⟩))) := s0
              have s1' : w5.cell? ⟨g2, j * 2 + 1, none⟩ = some (.slice none 0 0) := s1
              clear s0 s1 hb5 k0 k1 HD
              go_wp2_with fail
              refine (zzCseVar db none 0 0 w5).mono ?_
              rintro e w6 ⟨rfl, hb6⟩
              have hb56 := HB5.out.trans (hb6.mono hz5)
              have hcb6 : w6.heap[cb]? = _ := (hb56.block cb hcs).trans HCB.out
              have hdb6 : w6.heap[db]? = _ := (hb56.block db hds).trans HDB.out
              have HD6 := Lib.hid (HD5.out.up hb6)
              have HD7 := Lib.hid (HD6.out.rename hlt2 HU1.out (ids j ++ ⟨#[33]⟩) ⟨nc, hcb6⟩)
              have pe : (binOp .eql 40 (.pointer (some ⟨cb, 0, none⟩)) (.pointer (some ⟨db, 0, none⟩))).run Tryf.prog w6 = .ok (.bool false) w6 := eq_heads (n := 10) Tryf.underlying40 (by kernel_rfl) (by decide) hcd hcb6 hdb6 0
              have i0 : w6.cell? ⟨cb, 0, none⟩ = some (.string (ids j)) := (cell_of_row _ _ 0 _ _ _ hcb6).trans rfl
              have y0 : w6.frozen? ⟨cb, 0, none⟩ = false := frozen_of hcb6 0
              obtain ⟨ib, io, rfl, hib, hic⟩ := HI.out.cell (k := j) (by rw [HL.out]; exact hlt2)
              have hiq : w6.cell? ⟨ib, io + j, none⟩ = some (.string (ids j)) := by rw [HIDS.out]; exact (HD6.out.made.below.cell (p := ⟨ib, io + j, none⟩) hib).trans (hic j (by rw [HL.out]; exact hlt2))
              have hiq7 : (w6.setCell ⟨cb, 0, none⟩ (.string (ids j ++ ⟨#[33]⟩))).cell? ⟨ib, io + j, none⟩ = some (.string (ids j)) := by rw [HIDS.out] at HD7 ⊢; exact (HD7.out.made.below.cell (p := ⟨ib, io + j, none⟩) hib).trans (hic j (by rw [HL.out]; exact hlt2))
              have hzj : (ids j).size ≤ 1048576 := by rw [HIDS.out]; exact HZZ.out j hlt2
              have hd7 : (w6.setCell ⟨cb, 0, none⟩ (.string (ids j ++ ⟨#[33]⟩))).cell? ⟨db, 0, none⟩ = some (.string (ids j)) := (World.cell?_of_block (Below.heap_setCell w6 ⟨cb, 0, none⟩ _ db (Ne.symm hcd))).trans ((cell_of_row _ _ 0 _ _ _ hdb6).trans rfl)
              have HX7 := Lib.hid (And.intro hiq7 hd7)
              clear hb6 hb56 hcb6 hdb6 HD5 HB5 HCB HDB s0' s1' hic hiq7 hd7
              go_wp2_with fail
              have hx7 := HX7.out
              have hd7 := HD7.out
              generalize w6.setCell ⟨cb, 0, none⟩ (.string (ids j ++ ⟨#[33]⟩)) = w7 at hx7 hd7 ⊢
              obtain ⟨c1', c2'⟩ := hx7
              obtain ⟨l1, l2, l3⟩ := hd7.last hlt2 HPJ.out
              have b0 : w7.cell? ⟨b j, 0, none⟩ = some (.string (ids j)) := (cell_of_row _ _ 0 _ _ _ (hd7.made.var j hlt2 HPJ.out)).trans rfl
              obtain ⟨C, hC, hCs, hCc⟩ := hd7.row1
              obtain ⟨r0, r1⟩ := hCc j (Nat.le_refl _) hlt2
              have k0 : w7.cell? ⟨g1, j * 2, none⟩ = some (u1 j) := (cell_of_row _ _ _ _ _ _ hC).trans r0
              have k1 : w7.cell? ⟨g1, j * 2 + 1, none⟩ = some (.slice none 0 0) := (cell_of_row _ _ _ _ _ _ hC).trans r1
              have z0 : w7.frozen? ⟨g1, j * 2, none⟩ = false := frozen_of hC _
              have z1 : w7.frozen? ⟨g1, j * 2 + 1, none⟩ = false := frozen_of hC _
              have HE7 := Lib.hid hd7
              have x1 : (0 : Int) ≤ (j : Int) := by omega
              have x2 : (j : Int) < (q : Int) := by omega
              clear hC hCs hCc r0 r1 hd7 HD7 HX7 HD6 pe i0 y0 hiq l1 l2
              go_quiet (fail)
              rename_i nq
              go_wp2_with fail
              have hD8 := (HE7.out.drewN nq).over HE7.out.Vg rfl
              generalize ((w7.drewN nq).setCell ⟨g1, j * 2, none⟩ .nilIface).setCell ⟨g1, j * 2 + 1, none⟩ (.slice none 0 0) = w8 at hD8 ⊢
              obtain ⟨m1, m2, m3⟩ := hD8.last hlt2 HPJ.out
              have HD8 := Lib.hid hD8
              have qp : ∀ (w : World) (p : Addr), (binOp .neq 40 (.pointer (some p)) (.pointer (some p))).run Tryf.prog w = .ok (.bool false) w := fun w p => by
                obtain ⟨t, ht, _⟩ := info_size (P := Tryf.prog) (T := 43) (n := 10) (by kernel_rfl)
                exact Lib.run_neq_ptr_same (w := w) p Tryf.underlying40 ht
              clear hD8 HE7 k0 k1 z0 z1 b0 l3 c1' c2'
              go_region_held3 (fun w' => w'.cell? ⟨w.heap.size, j * 2, none⟩ = some (.iface 40 (.pointer (some ⟨b j, 0, none⟩))) ∧ w'.cell? ⟨w.heap.size, j * 2 + 1, none⟩ = some (.slice none 0 0) ∧ w'.cell? ⟨w1.heap.size, j, none⟩ = some (.pointer (some ⟨b j, 0, none⟩)))
                (first | go_keep | exact HD9.out.last hlt2 HPJ.out)
                (first
                  | (go_at_call 20; refine (zzCseVar (b j) none 0 0 _).mono ?_; rintro e w9 ⟨rfl, hb9⟩; have HD9 := Lib.hid (HD8.out.up' hb9 rfl rfl rfl rfl); clear hb9))
              go_wp2
              go_roundw
              case rel => exact ⟨j + 1, by omega, by go_num, HD9⟩
              case measure => simp [intOf]; omega
          · have HPJ : Hid (P j = false) := Lib.hid (by rw [HPP.out]; simp [hjm])
            obtain ⟨C, hC, hCs, hCc⟩ := HD.out.row1
            obtain ⟨r0, r1⟩ := hCc j (Nat.le_refl _) hlt2
            have k0 : wr.cell? ⟨g1, j * 2, none⟩ = some (u1 j) := (cell_of_row _ _ _ _ _ _ hC).trans r0
            have k1 : wr.cell? ⟨g1, j * 2 + 1, none⟩ = some (.slice none 0 0) := (cell_of_row _ _ _ _ _ _ hC).trans r1
            have z0 : wr.frozen? ⟨g1, j * 2, none⟩ = false := frozen_of hC _
            have z1 : wr.frozen? ⟨g1, j * 2 + 1, none⟩ = false := frozen_of hC _
            clear hC hCs hCc r0 r1
            go_wp2_with fail
            have hD8 := HD.out.weak.over HD.out.Vg rfl
            generalize (wr.setCell ⟨g1, j * 2, none⟩ .nilIface).setCell ⟨g1, j * 2 + 1, none⟩ (.slice none 0 0) = w8 at hD8 ⊢
            obtain ⟨m1, m2, _, _⟩ := hD8.made.cellsL hlt2
            rw [show vals P b q j = .nilIface by simp [vals, HPJ.out]] at m1
            have HD8 := Lib.hid hD8
            clear hD8 k0 k1 z0 z1 HD
            go_quiet (fail)
            go_wp2_with fail
            refine (zzCseNil none 0 0 _).mono ?_
            rintro e w9 ⟨rfl, hb9⟩
            have HD9 := Lib.hid ((HD8.out.drewN _).up hb9)
            clear hb9 HD8
            go_wp2
            go_roundw
            case rel => exact ⟨j + 1, by omega, by go_num, HD9⟩
            case measure => simp [intOf]; omega
        · obtain rfl : j = q := by omega
          go_wp2
          go_ret
          exact ⟨rfl, HD.out.made.below⟩

end Go.Proofs.YtgmmbimbbkbjfaaFmt.fnCloneCommaSeparatedExprsDetached
