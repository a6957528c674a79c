/-
  The walk of FnCloneCommaSeparatedExprsSpec.
-/
import Derived.Test.YtegabjiaekfmbaaFmtSpC
import Derived.Laws.Concat
import Derived.Lib.Builder
import Derived.Deep.Cut
import Derived.Deep.RegionHeld3
import Derived.Deep.DrawnRows
import Derived.Deep.QuietTactic
import Derived.BigQuiet
namespace Go.Proofs.YtegabjiaekfmbaaFmt.fnCloneCommaSeparatedExprsSpec
open Go Go.RowKit
attribute [local go_sem ↓] Go.wp_at_zero Go.wp_at_succ

set_option maxHeartbeats 6400000 in
set_option maxRecDepth 100000 in
theorem walk_z (ia : Addr) (n c : Nat) (zs : List ByteArray) (pa : Option Addr) (m pc : Nat) (f : Nat → Bool) (fa : Option Addr) (k fc : Nat) (fz : List ByteArray) (bl : Int) (w : World) (hi : StrsAt w w.heap.size (.slice (some ia) n c) zs) (hl : zs.length = n) (hn : n ≤ maxLen) (hz : ∀ i, i < n → (zs.getD i ByteArray.empty).size ≤ maxLen) (hp : BoolsAt w w.heap.size (.slice pa m pc) m f) (hm : m ≤ maxLen)
    (hfi : StrsAt w w.heap.size (.slice fa k fc) fz) (hfl : fz.length = k) (hk : k ≤ maxLen) (hfz : ∀ i, i < k → (fz.getD i ByteArray.empty).size ≤ maxLen)(hk0 : ¬ 0 < k) :
    Calls Tryf.prog 5 #[.slice (some ia) n c, .slice pa m pc, .slice fa k fc, .int .i64 bl] w fun e w' => e = .returned (.bool true) ∧ Below w.heap.size w w' := by
  obtain ⟨i0, hi0, hz0, hz1, hz2⟩ := info_parts infoCse
  obtain ⟨j0, hj0, hy0, hy1, hy2⟩ := info_parts infoVarP
  have HI := Lib.hid hi
  have HL := Lib.hid hl
  have HP := Lib.hid hp
  have HFI := Lib.hid hfi
  have HFL := Lib.hid hfl
  have HZ := Lib.hid (bytesAt (some ia) n c zs pa m pc fa k fc fz bl w hi hl hn hm hk hz hfi hfl hfz)
  clear hi hl hz hp hfi hfl hfz
  unfold maxLen at hn hm hk
  have qn : ∀ (w : World) (a : Option Addr) (n c n' c' : Nat), (binOp .neq 22 (.slice a n c) (.slice none n' c')).run Tryf.prog w = .ok (.bool (!a.isNone)) w := fun w a n c n' c' => run_neq_slice_nil_any w _ _ a n c n' c' Tryf.underlying22
  go_enter Tryf.func5, Tryf.ntmps5
  go_wp2_with fail
  refine HZ.out.mono ?_
  rintro e w' ⟨⟨b, rfl, hb⟩, rfl⟩
  cases b with
  | false =>
    go_wp2
    go_ret
    exact ⟨rfl, Below.refl _ _⟩
  | true =>
  obtain ⟨hsum, hzz, hff⟩ := hb rfl
  have HZZ := Lib.hid hzz
  have HFF := Lib.hid hff
  clear hb hzz hff HZ
  by_cases e1 : 65536 < n
  · go_wp2
    go_ret
    exact ⟨rfl, Below.refl _ _⟩
  have d1 : decide (65536 < n) = false := decide_eq_false e1
  by_cases e2 : 65536 < m
  · go_wp2
    go_ret
    exact ⟨rfl, Below.refl _ _⟩
  have d2 : decide (65536 < m) = false := decide_eq_false e2
  by_cases e0 : 65536 < k
  · omega
  have d0 : decide (65536 < k) = false := decide_eq_false e0
  go_wp2_with fail
  refine (strBytes (some ia) n c zs w HI.out HL.out (by omega) HZZ.out).mono ?_
  rintro e w' ⟨⟨S, rfl, hS, _⟩, rfl⟩
  go_wp2_with fail
  refine (strBytes fa k fc fz w HFI.out HFL.out (by omega) HFF.out).mono ?_
  rintro e w' ⟨⟨S2, rfl, hS2, _⟩, rfl⟩
  by_cases e3 : 1048576 < S + m + S2
  · go_wp2
    go_ret
    exact ⟨rfl, Below.refl _ _⟩
  go_wp2_with (first
    | (refine wpList_make_full _ rfl _ _ 34 rfl w.heap.size 56 i0 _ 2 Tryf.underlying34 hi0 hz0 hz1 .i64 .i64 _ _ n rfl rfl rfl rfl (by rw [hz2]; omega) (by unfold maxLen; omega) (Nat.le_refl _) ?_; intro w1 hown1 hg1;
        have HR1 := Lib.hid (cseMade hown1); have HB1 := Lib.hid ((Below.refl w.heap.size w).grown hg1 (Nat.le_refl _) (by simp)); clear hown1 hg1)
    | (refine wpList_make_full _ rfl _ _ 30 rfl w1.heap.size 57 j0 _ 1 Tryf.underlying30 hj0 hy0 hy1 .i64 .i64 _ _ n rfl rfl rfl rfl (by rw [hy2]; omega) (by unfold maxLen; omega) (Nat.le_refl _) ?_; intro w2 hown2 hg2;
        have HV2 := Lib.hid (varMade hown2); have HB2 := Lib.hid ((Below.refl w1.heap.size w1).grown hg2 (Nat.le_refl _) (by simp)); clear hown2 hg2))
  have hs1 := HB1.out.size
  have hs2 := HB2.out.size
  obtain ⟨ids, hids⟩ : ∃ ids : Nat → ByteArray, ids = fun i => zs.getD i ByteArray.empty := ⟨_, rfl⟩
  obtain ⟨P, hPP⟩ : ∃ P : Nat → Bool, P = fun i => decide (i < m) && f i := ⟨_, rfl⟩
  have HIDS := Lib.hid hids
  have HPP := Lib.hid hPP
  clear hids hPP
  have hMk : Hid (∃ b h N, SpSt w w2 w.heap.size w1.heap.size n 0 0 ids P fz bl b h N) := Lib.hid ⟨fun _ => 0, fun _ => 0, fun _ => (none, 0, 0), by
      obtain ⟨C, hC, hc⟩ := HR1.out
      refine ⟨⟨C, (HB2.out.block _ (Array.getElem?_eq_some_iff.1 hC).1).trans hC, fun i hi => ⟨by rw [(hc i hi).1]; simp [vals], by rw [(hc i hi).2]; simp [fods]⟩⟩, ?_, fun i hi => absurd hi (by omega), fun i hi => absurd hi (by omega), HB1.out.trans (HB2.out.mono hs1), Nat.le_refl _, hs1⟩
      obtain ⟨D, hD, hd⟩ := HV2.out
      exact ⟨D, hD, fun i hi => by rw [hd i hi]; simp [ptrs]⟩⟩
  clear HR1 HB1 HV2 HB2
  go_loopw [11] (fun i wr => ∃ q : Nat, q ≤ n ∧ i = .int .i64 q ∧ Hid (∃ b h N, SpSt w wr w.heap.size w1.heap.size n q q ids P fz bl b h N)) (fun i _ => n - (intOf i).toNat)
  case atStart => exact ⟨0, Nat.zero_le _, rfl, hMk⟩
  case round =>
    obtain ⟨q, hq, rfl, HM⟩ := hrel
    by_cases hlt : q < n
    · obtain ⟨b, h, N, hmk⟩ := HM.out
      have HMK := Lib.hid hmk
      clear hmk HM
      by_cases hqm : q < m
      · obtain ⟨pb, po, rfl, hpb, hpc⟩ := HP.out.cell hqm
        have hpq : wr.cell? ⟨pb, po + q, none⟩ = some (.bool (f q)) := (HMK.out.below.cell (p := ⟨pb, po + q, none⟩) hpb).trans (hpc q hqm)
        clear hpc
        cases hfq : f q with
        | false =>
          rw [hfq] at hpq
          have HSV := Lib.hid (HMK.out.skipV (by rw [HPP.out]; simp [hfq]))
          clear hfq HMK
          obtain ⟨wv, hwv⟩ : ∃ wv, wv = wr := ⟨_, rfl⟩
          subst hwv
          by_cases hpar : q % 2 = 0
          · have t1 : ((q : Int) % 2 == 0) = true := beq_iff_eq.2 (by omega)
            obtain ⟨_, l1, _, z1⟩ := HSV.out.rowL.cells hlt
            rw [show fods h q q = .slice none 0 0 by simp [fods]] at l1
            have hll := HSV.out.ltL
            have HF : Hid (∃ b h N, SpSt w ((wv.setCell ⟨w.heap.size, q * 2 + 1, none⟩ (.slice (some ⟨wv.heap.size, 0, none⟩) 1 1)).alloc (.cells (fodRow bl) 97 (0, 0))) w.heap.size w1.heap.size n (q + 1) (q + 1) ids P fz bl b h N) := Lib.hid (by
              have hs : (wv.setCell ⟨w.heap.size, q * 2 + 1, none⟩ (.slice (some ⟨wv.heap.size, 0, none⟩) 1 1)).heap.size = wv.heap.size := by simp [World.setCell]
              obtain ⟨h', hh⟩ := HSV.out.stepF (w' := (wv.setCell ⟨w.heap.size, q * 2 + 1, none⟩ (.slice (some ⟨wv.heap.size, 0, none⟩) 1 1)).alloc (.cells (fodRow bl) 97 (0, 0))) hlt hpar wv.heap.size (Nat.le_refl _)
                (fun C hC => by rw [get_old (by omega)]; exact Lib.heap_setCell_same hC _) (get_new hs.symm)
                (fun i h1 h2 => by rw [get_old (by omega)]; exact Below.heap_setCell _ ⟨w.heap.size, q * 2 + 1, none⟩ _ i h2) ⟨rfl, rfl, rfl, by simp [World.setCell]⟩
              exact ⟨_, _, _, hh⟩)
            clear hpar
            go_wp2
            go_roundw
            case rel => exact ⟨q + 1, by omega, by go_num, HF⟩
            case measure => simp [intOf]; omega
          · have t1 : ((q : Int) % 2 == 0) = false := beq_eq_false_iff_ne.2 (by omega)
            have HF : Hid (∃ b h N, SpSt w wv w.heap.size w1.heap.size n (q + 1) (q + 1) ids P fz bl b h N) := Lib.hid ⟨_, _, _, HSV.out.skipF (by omega)⟩
            clear hpar
            go_wp2
            go_roundw
            case rel => exact ⟨q + 1, by omega, by go_num, HF⟩
            case measure => simp [intOf]; omega
        | true =>
          rw [hfq] at hpq
          have hPq : Hid (P q = true) := Lib.hid (by rw [HPP.out]; simp [hfq, hqm])
          clear hfq
          obtain ⟨ib, io, hia, hib, hic⟩ := HI.out.cell (k := q) (by rw [HL.out]; exact hlt)
          cases hia
          have hiq : wr.cell? ⟨ib, io + q, none⟩ = some (.string (ids q)) := by rw [HIDS.out]; exact (HMK.out.below.cell (p := ⟨ib, io + q, none⟩) hib).trans (hic q (by rw [HL.out]; exact hlt))
          clear hic
          obtain ⟨D, hD, hd⟩ := HMK.out.rowV
          have cv : wr.cell? ⟨w1.heap.size, q, none⟩ = some (.pointer none) := (cell_of_row _ _ _ _ _ _ hD).trans (by rw [hd q hlt]; simp [ptrs])
          have fv : wr.frozen? ⟨w1.heap.size, q, none⟩ = false := frozen_of hD _
          have hVlt := HMK.out.ltV
          have hLlt := HMK.out.ltL
          have hLV := HMK.out.ne
          have HD := Lib.hid hD
          clear hD hd
          go_wp2_with fail
          generalize hX : (wr.setCell ⟨w1.heap.size, q, none⟩ (.pointer (some ⟨wr.heap.size, 0, none⟩))).alloc (.cells #[.string (ids q), .slice none 0 0, .pointer none, .slice none 0 0, .pointer none, .string ⟨#[]⟩, .int .i64 0, .int .i64 0, .int .i64 0, .int .i64 0] 60 (0, 0)) = X
          have hzs : (wr.setCell ⟨w1.heap.size, q, none⟩ (.pointer (some ⟨wr.heap.size, 0, none⟩))).heap.size = wr.heap.size := by simp [World.setCell]
          have xk : ∀ i, i < wr.heap.size → i ≠ w1.heap.size → X.heap[i]? = wr.heap[i]? := fun i h1 h2 => by rw [← hX, get_old (by omega)]; exact Below.heap_setCell _ ⟨w1.heap.size, q, none⟩ _ i h2
          have xV : X.heap[w1.heap.size]? = some (.cells (D.setIfInBounds q (ptrTo wr.heap.size)) 57 (0, 0)) := by rw [← hX, get_old (by omega)]; exact (Lib.heap_setCell_same HD.out _).trans rfl
          have xN : X.heap[wr.heap.size]? = some (.cells (varCells (ids q) (nA (none, 0, 0))) 60 (0, 0)) := by rw [← hX]; exact get_new hzs.symm
          have xs : X.heap.size = wr.heap.size + 1 := by rw [← hX]; simp [World.setCell]
          have xo : X.os = wr.os ∧ X.tape = wr.tape ∧ X.output = wr.output := by rw [← hX]; exact ⟨rfl, rfl, rfl⟩
          have hqD : q < D.size := (Array.getElem?_eq_some_iff.1 (show D[q]? = some (.pointer none) from (cell_of_row _ _ _ _ _ _ HD.out).symm.trans cv)).1
          have xc : X.cell? ⟨w1.heap.size, q, none⟩ = some (.pointer (some ⟨wr.heap.size, 0, none⟩)) := (cell_of_row _ _ _ _ _ _ xV).trans (by rw [Array.getElem?_setIfInBounds_self, if_pos hqD]; rfl)
          have xf : X.frozen? ⟨wr.heap.size, 3, none⟩ = false := frozen_of xN 3
          have HFX : Hid (StrsAt X X.heap.size (.slice fa k fc) fz) := Lib.hid (by
            refine strs_keep (X := wr) (strs_keep (X := w) HFI.out HMK.out.below.size (fun p z hlt2 hp => (HMK.out.below.cell hlt2).trans hp) (Below.refl _ _)) (by omega) (fun p z hlt2 hp => ?_) (Below.refl _ _)
            rw [← hX, World.cell?_alloc_lt _ _ _ (by rw [hzs]; exact hlt2), World.cell?_setCell_other _ _ _ _ (fun e => by rw [← e, cv] at hp; cases hp)]
            exact hp)
          have XK := Lib.hid xk
          have XV := Lib.hid xV
          have XN := Lib.hid xN
          have XO := Lib.hid xo
          clear hX hiq cv fv hpq hzs xk xV xN xo hqD
          go_region_held3 (fun w' => w'.cell? ⟨w1.heap.size, q, none⟩ = some (.pointer (some ⟨wr.heap.size, 0, none⟩)) ∧ w'.frozen? ⟨wr.heap.size, 3, none⟩ = false)
            (first | exact ⟨xc, xf⟩ | exact hk5 | exact hk6 _)
            (first
              | (go_at_call 35; refine (mkIdentsO fa k fc fz _ (by exact HFX.out.drewN 1) HFL.out (by omega)).mono ?_; rintro e w5 ⟨⟨a5, c5, rfl, ho5⟩, hb5⟩;
                  have HB5 : Hid (Below X.heap.size X w5) := Lib.hid ⟨hb5.os, hb5.tape, hb5.output, hb5.size, hb5.block⟩;
                  have HO5 := Lib.hid ho5;
                  have HN5 : Hid (w5.heap[wr.heap.size]? = some (.cells (varCells (ids q) (nA (none, 0, 0))) 60 (0, 0))) := Lib.hid ((HB5.out.block _ (by omega)).trans XN.out);
                  have hk5 : w5.cell? ⟨w1.heap.size, q, none⟩ = some (.pointer (some ⟨wr.heap.size, 0, none⟩)) ∧ w5.frozen? ⟨wr.heap.size, 3, none⟩ = false := ⟨(HB5.out.cell (p := ⟨w1.heap.size, q, none⟩) (by show w1.heap.size < X.heap.size; omega)).trans xc, frozen_of HN5.out 3⟩;
                  have hc5 : w5.cell? ⟨wr.heap.size, 3, none⟩ = some (.slice none 0 0) := (cell_of_row _ _ 3 _ _ _ HN5.out).trans rfl;
                  have hk6 : ∀ v, (w5.setCell ⟨wr.heap.size, 3, none⟩ v).cell? ⟨w1.heap.size, q, none⟩ = some (.pointer (some ⟨wr.heap.size, 0, none⟩)) ∧ (w5.setCell ⟨wr.heap.size, 3, none⟩ v).frozen? ⟨wr.heap.size, 3, none⟩ = false := (fun v => ⟨(World.cell?_of_block (Below.heap_setCell w5 ⟨wr.heap.size, 3, none⟩ v w1.heap.size (by show w1.heap.size ≠ wr.heap.size; omega))).trans hk5.1, by rw [World.frozen?_setCell]; exact hk5.2⟩); clear ho5 hb5))
          have yc := (hk6 (.slice a5 k c5)).1
          generalize hY : w5.setCell ⟨wr.heap.size, 3, none⟩ (.slice a5 k c5) = Y at yc ⊢
          have yk : ∀ i, i < wr.heap.size + 1 → i ≠ wr.heap.size → Y.heap[i]? = X.heap[i]? := fun i h1 h2 => by rw [← hY, Below.heap_setCell _ ⟨wr.heap.size, 3, none⟩ _ i h2]; exact HB5.out.block i (by omega)
          have yN : Y.heap[wr.heap.size]? = some (.cells (varCells (ids q) (nA (a5, k, c5))) 60 (0, 0)) := by rw [← hY]; exact (Lib.heap_setCell_same HN5.out _).trans (by simp [varCells, nA])
          have yO : FvOwn Y (sl (a5, k, c5)) fz := HO5.out.keepT (fun i c fr hi2 => by rw [← hY]; exact Below.heap_setCell _ ⟨wr.heap.size, 3, none⟩ _ i (fun e => by have e : i = wr.heap.size := e; rw [e, HN5.out] at hi2; cases hi2))
          have ys : X.heap.size ≤ Y.heap.size := by rw [← hY]; simpa [World.setCell] using HB5.out.size
          have yo : Y.os = X.os ∧ Y.tape = X.tape ∧ Y.output = X.output := by rw [← hY]; exact ⟨HB5.out.os, HB5.out.tape, HB5.out.output⟩
          have YK := Lib.hid yk
          have YN := Lib.hid yN
          have YO := Lib.hid yO
          have YOS := Lib.hid yo
          clear hY yk yN yO yo hk5 hk6 hc5 HB5 HO5 HN5 xc xf HFX
          go_wp2_with fail
          refine (zzCseOfVar wr.heap.size Y).mono ?_
          rintro e w7 ⟨rfl, hb7⟩
          have hz7 := hb7.size
          have k7 : ∀ i, i < wr.heap.size + 1 → w7.heap[i]? = Y.heap[i]? := fun i h1 => hb7.block i (by omega)
          have kk : ∀ i, i < wr.heap.size → i ≠ w1.heap.size → w7.heap[i]? = wr.heap[i]? := fun i h1 h2 => ((k7 i (by omega)).trans (YK.out i (by omega) (by omega))).trans (XK.out i h1 h2)
          obtain ⟨l0, l1, _, _⟩ := HMK.out.rowL.cells hlt
          rw [show vals P b q q = .nilIface by simp [vals]] at l0
          rw [show fods h q q = .slice none 0 0 by simp [fods]] at l1
          have l0' : w7.cell? ⟨w.heap.size, q * 2, none⟩ = some .nilIface := (World.cell?_of_block (kk _ hLlt hLV)).trans l0
          have l1' : w7.cell? ⟨w.heap.size, q * 2 + 1, none⟩ = some (.slice none 0 0) := (World.cell?_of_block (kk _ hLlt hLV)).trans l1
          obtain ⟨C, hC, _⟩ := HMK.out.rowL
          have hC7 : w7.heap[w.heap.size]? = some (.cells C 56 (0, 0)) := (kk _ hLlt hLV).trans hC
          have f0' : w7.frozen? ⟨w.heap.size, q * 2, none⟩ = false := frozen_of hC7 _
          have f1' : w7.frozen? ⟨w.heap.size, q * 2 + 1, none⟩ = false := frozen_of hC7 _
          have HS : Hid (∃ b' N', SpSt w ((w7.setCell ⟨w.heap.size, q * 2, none⟩ (.iface 57 (.pointer (some ⟨wr.heap.size, 0, none⟩)))).setCell ⟨w.heap.size, q * 2 + 1, none⟩ (.slice none 0 0)) w.heap.size w1.heap.size n (q + 1) q ids P fz bl b' h N') := Lib.hid (HMK.out.stepV hlt hPq.out wr.heap.size (a5, k, c5) (Nat.le_refl _)
            (fun C2 hC2 => by
              rw [hC] at hC2
              cases hC2
              exact Lib.heap_setCell_same (Lib.heap_setCell_same hC7 _) _)
            (fun D2 hD2 => by
              rw [HD.out] at hD2
              cases hD2
              rw [Below.heap_setCell _ ⟨w.heap.size, q * 2 + 1, none⟩ _ _ (Ne.symm hLV), Below.heap_setCell _ ⟨w.heap.size, q * 2, none⟩ _ _ (Ne.symm hLV), k7 _ (by omega), YK.out _ (by omega) (by omega)]
              exact XV.out)
            (by
              rw [Below.heap_setCell _ ⟨w.heap.size, q * 2 + 1, none⟩ _ _ (by show wr.heap.size ≠ w.heap.size; omega), Below.heap_setCell _ ⟨w.heap.size, q * 2, none⟩ _ _ (by show wr.heap.size ≠ w.heap.size; omega), k7 _ (by omega)]
              exact YN.out)
            ((YO.out.keepT (fun i c fr hi2 => hb7.block i (Array.getElem?_eq_some_iff.1 hi2).1)).keepT (fun i c fr hi2 => by
              have hne : i ≠ w.heap.size := fun e => by rw [e, hC7] at hi2; cases hi2
              rw [Below.heap_setCell _ ⟨w.heap.size, q * 2 + 1, none⟩ _ _ hne, Below.heap_setCell _ ⟨w.heap.size, q * 2, none⟩ _ _ hne]))
            (fun i h1 h2 h3 => by
              rw [Below.heap_setCell _ ⟨w.heap.size, q * 2 + 1, none⟩ _ _ h2, Below.heap_setCell _ ⟨w.heap.size, q * 2, none⟩ _ _ h2]
              exact kk i h1 h3)
            ⟨(hb7.os.trans YOS.out.1).trans XO.out.1, (hb7.tape.trans YOS.out.2.1).trans XO.out.2.1, (hb7.output.trans YOS.out.2.2).trans XO.out.2.2, by simp [World.setCell]; omega⟩)
          clear hb7 k7 kk l0 l1 hC hC7 HD XK XV XN XO YK YN YO YOS hLV HMK
          go_upto_region 20 with (fail)
          obtain ⟨b', N', hsv⟩ := HS.out
          generalize ((w7.setCell ⟨w.heap.size, q * 2, none⟩ (.iface 57 (.pointer (some ⟨wr.heap.size, 0, none⟩)))).setCell ⟨w.heap.size, q * 2 + 1, none⟩ (.slice none 0 0)) = wv at hsv ⊢
          have HSV := Lib.hid hsv
          clear hsv HS l0' l1' f0' f1'
          by_cases hpar : q % 2 = 0
          · have t1 : ((q : Int) % 2 == 0) = true := beq_iff_eq.2 (by omega)
            obtain ⟨_, l1, _, z1⟩ := HSV.out.rowL.cells hlt
            rw [show fods h q q = .slice none 0 0 by simp [fods]] at l1
            have hll := HSV.out.ltL
            have HF : Hid (∃ b h N, SpSt w ((wv.setCell ⟨w.heap.size, q * 2 + 1, none⟩ (.slice (some ⟨wv.heap.size, 0, none⟩) 1 1)).alloc (.cells (fodRow bl) 97 (0, 0))) w.heap.size w1.heap.size n (q + 1) (q + 1) ids P fz bl b h N) := Lib.hid (by
              have hs : (wv.setCell ⟨w.heap.size, q * 2 + 1, none⟩ (.slice (some ⟨wv.heap.size, 0, none⟩) 1 1)).heap.size = wv.heap.size := by simp [World.setCell]
              obtain ⟨h', hh⟩ := HSV.out.stepF (w' := (wv.setCell ⟨w.heap.size, q * 2 + 1, none⟩ (.slice (some ⟨wv.heap.size, 0, none⟩) 1 1)).alloc (.cells (fodRow bl) 97 (0, 0))) hlt hpar wv.heap.size (Nat.le_refl _)
                (fun C hC => by rw [get_old (by omega)]; exact Lib.heap_setCell_same hC _) (get_new hs.symm)
                (fun i h1 h2 => by rw [get_old (by omega)]; exact Below.heap_setCell _ ⟨w.heap.size, q * 2 + 1, none⟩ _ i h2) ⟨rfl, rfl, rfl, by simp [World.setCell]⟩
              exact ⟨_, _, _, hh⟩)
            clear hpar
            go_wp2
            go_roundw
            case rel => exact ⟨q + 1, by omega, by go_num, HF⟩
            case measure => simp [intOf]; omega
          · have t1 : ((q : Int) % 2 == 0) = false := beq_eq_false_iff_ne.2 (by omega)
            have HF : Hid (∃ b h N, SpSt w wv w.heap.size w1.heap.size n (q + 1) (q + 1) ids P fz bl b h N) := Lib.hid ⟨_, _, _, HSV.out.skipF (by omega)⟩
            clear hpar
            go_wp2
            go_roundw
            case rel => exact ⟨q + 1, by omega, by go_num, HF⟩
            case measure => simp [intOf]; omega
      · have HSV := Lib.hid (HMK.out.skipV (by rw [HPP.out]; simp [hqm]))
        clear HMK
        obtain ⟨wv, hwv⟩ : ∃ wv, wv = wr := ⟨_, rfl⟩
        subst hwv
        by_cases hpar : q % 2 = 0
        · have t1 : ((q : Int) % 2 == 0) = true := beq_iff_eq.2 (by omega)
          obtain ⟨_, l1, _, z1⟩ := HSV.out.rowL.cells hlt
          rw [show fods h q q = .slice none 0 0 by simp [fods]] at l1
          have hll := HSV.out.ltL
          have HF : Hid (∃ b h N, SpSt w ((wv.setCell ⟨w.heap.size, q * 2 + 1, none⟩ (.slice (some ⟨wv.heap.size, 0, none⟩) 1 1)).alloc (.cells (fodRow bl) 97 (0, 0))) w.heap.size w1.heap.size n (q + 1) (q + 1) ids P fz bl b h N) := Lib.hid (by
            have hs : (wv.setCell ⟨w.heap.size, q * 2 + 1, none⟩ (.slice (some ⟨wv.heap.size, 0, none⟩) 1 1)).heap.size = wv.heap.size := by simp [World.setCell]
            obtain ⟨h', hh⟩ := HSV.out.stepF (w' := (wv.setCell ⟨w.heap.size, q * 2 + 1, none⟩ (.slice (some ⟨wv.heap.size, 0, none⟩) 1 1)).alloc (.cells (fodRow bl) 97 (0, 0))) hlt hpar wv.heap.size (Nat.le_refl _)
              (fun C hC => by rw [get_old (by omega)]; exact Lib.heap_setCell_same hC _) (get_new hs.symm)
              (fun i h1 h2 => by rw [get_old (by omega)]; exact Below.heap_setCell _ ⟨w.heap.size, q * 2 + 1, none⟩ _ i h2) ⟨rfl, rfl, rfl, by simp [World.setCell]⟩
            exact ⟨_, _, _, hh⟩)
          clear hpar
          go_wp2
          go_roundw
          case rel => exact ⟨q + 1, by omega, by go_num, HF⟩
          case measure => simp [intOf]; omega
        · have t1 : ((q : Int) % 2 == 0) = false := beq_eq_false_iff_ne.2 (by omega)
          have HF : Hid (∃ b h N, SpSt w wv w.heap.size w1.heap.size n (q + 1) (q + 1) ids P fz bl b h N) := Lib.hid ⟨_, _, _, HSV.out.skipF (by omega)⟩
          clear hpar
          go_wp2
          go_roundw
          case rel => exact ⟨q + 1, by omega, by go_num, HF⟩
          case measure => simp [intOf]; omega
    · obtain rfl : q = n := by omega
      obtain ⟨b, h, N, hmk⟩ := HM.out
      have HMK := Lib.hid hmk
      clear hmk HM
      go_wp2_with fail
      refine (zzClone (some ⟨w.heap.size, 0, none⟩) q q (vals P b q) (fods h q) (leafS ids P fz N) wr (fun _ => ⟨_, rfl, HMK.out.rowL⟩) (fun h => by cases h) (HMK.out.leaf (by rw [HFL.out]; omega)) (fun i hi => ⟨vals_one _ _ _ _, fods_one _ _ _⟩) (by omega)).mono ?_
      rintro e w3 ⟨g1, c1, u1, rfl, hg1, hr1, hn1, _, hb3⟩
      have HS3 := Lib.hid (HMK.out.up hb3)
      have HR3 : Hid (CseRow w3 g1 q u1 (fods h q)) := Lib.hid hr1
      have HN3 := Lib.hid hn1
      have HLT := Lib.hid (fun i (hi : i < q) (hp : P i = true) => (Array.getElem?_eq_some_iff.1 (HMK.out.var i hi hp).1).1)
      have HFV3 : Hid (StrsAt w3 w3.heap.size (.slice fa k fc) fz) := Lib.hid (strs_keep (X := w) HFI.out HS3.out.below.size (fun p z hlt2 hp => (HS3.out.below.cell hlt2).trans hp) (Below.refl _ _))
      have qc : ∀ (w : World) (a : Option Addr) (n c n' c' : Nat), (binOp .eql 34 (.slice a n c) (.slice none n' c')).run Tryf.prog w = .ok (.bool a.isNone) w := fun w a n c n' c' => Lib.run_eql_slice_nil w _ _ a n c n' c' Tryf.underlying34
      have qi : ∀ (w : World) (a : Option Addr) (n c n' c' : Nat), (binOp .eql 38 (.slice a n c) (.slice none n' c')).run Tryf.prog w = .ok (.bool a.isNone) w := fun w a n c n' c' => Lib.run_eql_slice_nil w _ _ a n c n' c' Tryf.underlying38
      clear hg1 hr1 hn1 hb3 HMK
      go_wp2
      go_loopw [13] (fun i wr => ∃ j : Nat, j ≤ q ∧ i = .int .i64 j ∧ Hid (Below w3.heap.size w3 wr)) (fun i _ => q - (intOf i).toNat)
      case atStart => exact ⟨0, Nat.zero_le _, rfl, Lib.hid (Below.refl _ _)⟩
      case round =>
        obtain ⟨j, hj, rfl, HBV⟩ := hrel
        by_cases hlt2 : j < q
        · obtain ⟨fA, fN, fC, hfo, hff⟩ : ∃ fA fN fC, fods h q j = .slice fA fN fC ∧ ((fN = 1 ∧ fC = 1 ∧ ∃ hb, fA = some ⟨hb, 0, none⟩ ∧ w3.heap[hb]? = some (.cells (fodRow bl) 97 (0, 0))) ∨ fN = 0) := by
            by_cases hpar : j % 2 = 0
            · exact ⟨some ⟨h j, 0, none⟩, 1, 1, by simp [fods, hlt2, hpar], .inl ⟨rfl, rfl, h j, rfl, HS3.out.fod j hlt2 hpar⟩⟩
            · exact ⟨none, 0, 0, by simp [fods, hpar], .inr rfl⟩
          have HFO := Lib.hid hfo
          have HFF2 := Lib.hid hff
          clear hfo hff
          obtain ⟨r0, r1, _, _⟩ := (CseRow.up HR3.out HBV.out).cells hlt2
          rw [HFO.out] at r1
          by_cases hjm : j < m
          · obtain ⟨pb, po, hpa, hpb, hpc⟩ := HP.out.cell hjm
            cases hpa
            have hpq : wr.cell? ⟨pb, po + j, none⟩ = some (.bool (f j)) := ((HBV.out.cell (p := ⟨pb, po + j, none⟩) (Nat.lt_of_lt_of_le hpb HS3.out.below.size)).trans (HS3.out.below.cell (p := ⟨pb, po + j, none⟩) hpb)).trans (hpc j hjm)
            clear hpc
            cases hfj : f j with
            | false =>
              rw [hfj] at hpq
              have HPJ : Hid (P j = false) := Lib.hid (by rw [HPP.out]; simp [hfj])
              clear hfj
              have hu : LeafNew _ w3 (u1 j) (leafS ids P fz N j) := HN3.out j hlt2
              rw [leafS, if_neg (by rw [HPJ.out]; exact Bool.false_ne_true)] at hu
              have hu2 : u1 j = .nilIface := hu
              rw [hu2] at r0
              clear hu hu2
              go_wp2_with fail
              refine (zzCseNil fA fN fC _).mono ?_
              rintro e w5 ⟨rfl, hb5⟩
              have HB5 := Lib.hid (HBV.out.trans (hb5.mono HBV.out.size))
              clear hb5 r0 r1 HBV
              obtain ⟨l0, l1, _, _⟩ := (HS3.out.up HB5.out).rowL.cells hlt2
              rw [HFO.out] at l1
              rw [show vals P b q j = .nilIface by simp [vals, HPJ.out]] at l0
              go_wp2_with fail
              refine (zzCseNil fA fN fC _).mono ?_
              rintro e w9 ⟨rfl, hb9⟩
              have HB9 := Lib.hid (HB5.out.trans (hb9.mono HB5.out.size))
              clear hb9 l0 l1 HB5
              obtain ⟨_, m1, _, _⟩ := (HS3.out.up HB9.out).rowL.cells hlt2
              obtain ⟨_, m3, _, _⟩ := (CseRow.up HR3.out HB9.out).cells hlt2
              rw [HFO.out] at m1 m3
              have x1 : (0 : Int) ≤ (j : Int) := by omega
              have x2 : (j : Int) < (q : Int) := by omega
              rcases HFF2.out with ⟨rfl, rfl, hb, rfl, hbr⟩ | rfl
              · have y2 : w9.cell? ⟨hb, 2, none⟩ = some (.int .i64 bl) := (cell_of_row _ _ 2 _ _ _ ((HB9.out.block hb (Array.getElem?_eq_some_iff.1 hbr).1).trans hbr)).trans rfl
                clear hbr
                go_wp2_with fail
                go_quiet (fail)
                go_wp2
                go_roundw
                case rel => exact ⟨j + 1, by omega, by go_num, Lib.hid (drewN_below HB9.out _)⟩
                case measure => simp [intOf]; omega
              · go_wp2_with fail
                go_quiet (fail)
                go_wp2
                go_roundw
                case rel => exact ⟨j + 1, by omega, by go_num, Lib.hid (drewN_below HB9.out _)⟩
                case measure => simp [intOf]; omega
            | true =>
              rw [hfj] at hpq
              have HPJ : Hid (P j = true) := Lib.hid (by rw [HPP.out]; simp [hfj, hjm])
              clear hfj
              have hu : LeafNew _ w3 (u1 j) (leafS ids P fz N j) := HN3.out j hlt2
              rw [leafS, if_pos HPJ.out] at hu
              obtain ⟨cb, n', hge, hu1, hcb, hnb⟩ := hu
              obtain ⟨gv, capv, hfvv, hgvB, hfvo⟩ := hnb.fv
              have hblt := HLT.out j hlt2 HPJ.out
              have hcbd : cb ≠ b j := by omega
              rw [hu1] at r0
              have HCB := Lib.hid hcb
              have HFVO : Hid (FvOwn w3 (.slice (some ⟨gv, 0, none⟩) k capv) fz) := Lib.hid (.inr ⟨gv, capv, by rw [HFL.out], by rw [← HFL.out, ← hfvv]; exact base0 hfvo⟩)
              have HFVV : Hid (Value.slice n'.va n'.vn n'.vc = .slice (some ⟨gv, 0, none⟩) k capv) := Lib.hid (by rw [hfvv, HFL.out])
              have HU1 := Lib.hid hu1
              clear hu1 hcb hnb hfvo hfvv hge hgvB
              go_wp2_with fail
              refine (zzCseNot cb fA fN fC _).mono ?_
              rintro e w5 ⟨rfl, hb5⟩
              have HB5 := Lib.hid (HBV.out.trans (hb5.mono HBV.out.size))
              clear hb5 r0 r1 HBV
              obtain ⟨r0, r1, _, _⟩ := (CseRow.up HR3.out HB5.out).cells hlt2
              rw [HU1.out] at r0
              rw [HFO.out] at r1
              have r0' : w5.cell? ⟨g1, j * 2, none⟩ = some (.iface 57 (.pointer (some ⟨cb, 0, none⟩))) := r0
              clear r0
              go_wp2_with fail
              refine (zzCseVar cb fA fN fC _).mono ?_
              rintro e w6 ⟨rfl, hb6⟩
              have HB6 := Lib.hid (HB5.out.trans (hb6.mono HB5.out.size))
              clear hb6 r0' r1 HB5
              have hcb6 : w6.heap[cb]? = _ := (HB6.out.block cb (Array.getElem?_eq_some_iff.1 HCB.out).1).trans HCB.out
              have hbj6 : w6.heap[b j]? = _ := ((HS3.out.up HB6.out).var j hlt2 HPJ.out).1
              obtain ⟨_, _, s3, _, _⟩ := (HS3.out.up HB6.out).last hlt2 HPJ.out
              have pe : ∀ m, (binOp .eql 57 (.pointer (some ⟨cb, 0, none⟩)) (.pointer (some ⟨b j, 0, none⟩))).run Tryf.prog (w6.drewN m) = .ok (.bool false) (w6.drewN m) := eq_heads (n := 10) Tryf.underlying57 (by kernel_rfl) (by decide) hcbd hcb6 hbj6
              have pe0 : (binOp .eql 57 (.pointer (some ⟨cb, 0, none⟩)) (.pointer (some ⟨b j, 0, none⟩))).run Tryf.prog w6 = .ok (.bool false) w6 := pe 0
              have i0 : w6.cell? ⟨cb, 0, none⟩ = some (.string (ids j)) := (cell_of_row _ _ 0 _ _ _ hcb6).trans rfl
              have i3 : w6.cell? ⟨cb, 3, none⟩ = some (.slice (some ⟨gv, 0, none⟩) k capv) := ((cell_of_row _ _ 3 _ _ _ hcb6).trans rfl).trans (congrArg some HFVV.out)
              obtain ⟨ib, io, hia, hib, hic⟩ := HI.out.cell (k := j) (by rw [HL.out]; exact hlt2)
              cases hia
              have HIQ : ∀ W : World, Below w3.heap.size w3 W → Hid (W.cell? ⟨ib, io + j, none⟩ = some (.string (ids j))) := fun W hW => Lib.hid (by rw [HIDS.out]; exact ((hW.cell (p := ⟨ib, io + j, none⟩) (Nat.lt_of_lt_of_le hib HS3.out.below.size)).trans (HS3.out.below.cell (p := ⟨ib, io + j, none⟩) hib)).trans (hic j (by rw [HL.out]; exact hlt2)))
              have hiq := (HIQ w6 HB6.out).out
              have IM1 : Hid (StrsAt w6 w6.heap.size (.slice (some ⟨gv, 0, none⟩) k capv) fz) := Lib.hid ((HFVO.out.keepT (fun i c fr hi2 => HB6.out.block i (Array.getElem?_eq_some_iff.1 hi2).1)).strs (by rw [HFL.out]; omega))
              have IM2 : ∀ W : World, Below w3.heap.size w3 W → Hid (StrsAt W w3.heap.size (.slice fa k fc) fz) := fun W hW => Lib.hid (HFV3.out.below hW)
              have HIQ2 := Lib.hid HIQ
              have IM22 := Lib.hid IM2
              have IM26 := IM2 w6 HB6.out
              have x1 : (0 : Int) ≤ (j : Int) := by omega
              have x2 : (j : Int) < (q : Int) := by omega
              clear hic hcb6 hbj6 HIQ IM2
              go_wp2_with fail
              go_quiet ((go_at_call 40; exact Calls.quiet_of (identsMatch _ _ k capv fc _ _ fz _ (IM1.out.drewN _) (IM26.out.drewN _) HFL.out (by omega))))
              rename_i nq
              go_wp2_with fail
              have HB7 := Lib.hid (drewN_below HB6.out nq)
              clear pe pe0 i0 i3 hiq IM1 IM26 s3 x1 x2
              generalize w6.drewN nq = w7 at HB7 ⊢
              obtain ⟨va, vc, hN⟩ : ∃ va vc, sl (N j) = .slice va k vc := ⟨_, _, by unfold sl; rw [← (HS3.out.var j hlt2 HPJ.out).2.len, HFL.out]⟩
              have HLS : ∀ W : World, Below w3.heap.size w3 W → Hid (W.cell? ⟨w.heap.size, j * 2, none⟩ = some (.iface 57 (.pointer (some ⟨b j, 0, none⟩))) ∧ W.cell? ⟨w.heap.size, j * 2 + 1, none⟩ = some (.slice fA fN fC) ∧ W.cell? ⟨w1.heap.size, j, none⟩ = some (.pointer (some ⟨b j, 0, none⟩)) ∧ W.cell? ⟨b j, 0, none⟩ = some (.string (ids j)) ∧ W.cell? ⟨b j, 3, none⟩ = some (.slice va k vc) ∧ W.cell? ⟨ib, io + j, none⟩ = some (.string (ids j))) := fun W hW => Lib.hid (by
                obtain ⟨a1, a2, a3, a4, a5⟩ := (HS3.out.up hW).last hlt2 HPJ.out
                rw [HFO.out] at a2
                rw [hN] at a5
                exact ⟨a1, a2, a3, a4, a5, (HIQ2.out W hW).out⟩)
              have HVS : ∀ W : World, Below w3.heap.size w3 W → Hid (StrsAt W W.heap.size (.slice va k vc) fz) := fun W hW => Lib.hid (by rw [← hN]; exact ((HS3.out.up hW).var j hlt2 HPJ.out).2.strs (by rw [HFL.out]; omega))
              have HLS2 := Lib.hid HLS
              have HVS2 := Lib.hid HVS
              obtain ⟨m1, m2, m3, m4, m5, m6⟩ := (HLS w7 HB7.out).out
              have qp : ∀ (w : World) (p : Addr), (binOp .neq 57 (.pointer (some p)) (.pointer (some p))).run Tryf.prog w = .ok (.bool false) w := fun w p => by
                obtain ⟨t, ht, _⟩ := info_size (P := Tryf.prog) (T := 60) (n := 10) (by kernel_rfl)
                exact Lib.run_neq_ptr_same (w := w) p Tryf.underlying57 ht
              have x1 : (0 : Int) ≤ (j : Int) := by omega
              have x2 : (j : Int) < (q : Int) := by omega
              clear HLS HVS hN
              go_region_held3 (fun w' => w'.cell? ⟨w.heap.size, j * 2, none⟩ = some (.iface 57 (.pointer (some ⟨b j, 0, none⟩))) ∧ w'.cell? ⟨w.heap.size, j * 2 + 1, none⟩ = some (.slice fA fN fC) ∧ w'.cell? ⟨w1.heap.size, j, none⟩ = some (.pointer (some ⟨b j, 0, none⟩)) ∧ w'.cell? ⟨b j, 0, none⟩ = some (.string (ids j)) ∧ w'.cell? ⟨b j, 3, none⟩ = some (.slice va k vc) ∧ w'.cell? ⟨ib, io + j, none⟩ = some (.string (ids j)))
                (first | exact ⟨m1, m2, m3, m4, m5, m6⟩ | exact HK8.out)
                (first
                  | (go_at_call 39; refine (zzCseVar (b j) fA fN fC _).mono ?_; rintro e w8 ⟨rfl, hb8⟩; have HB8 : Hid (Below w3.heap.size w3 w8) := Lib.hid (HB7.out.trans (Below.mono ⟨hb8.os, hb8.tape, hb8.output, hb8.size, hb8.block⟩ HB7.out.size)); have HK8 := HLS2.out w8 HB8.out; have HV8 := HVS2.out w8 HB8.out; have HG8 := IM22.out w8 HB8.out; clear hb8)
                  | (go_at_call 40; refine (identsMatch va fa k vc fc _ _ fz _ HV8.out HG8.out HFL.out (by omega)).mono ?_; rintro e w9 ⟨rfl, mm, rfl⟩))
              have HB9 := Lib.hid (drewN_below HB8.out mm)
              clear m1 m2 m3 m4 m5 m6 x1 x2 qp HK8 HV8 HG8
              generalize w8.drewN mm = w9 at HB9 ⊢
              obtain ⟨_, m1, _, _⟩ := (HS3.out.up HB9.out).rowL.cells hlt2
              obtain ⟨_, m3, _, _⟩ := (CseRow.up HR3.out HB9.out).cells hlt2
              rw [HFO.out] at m1 m3
              have x1 : (0 : Int) ≤ (j : Int) := by omega
              have x2 : (j : Int) < (q : Int) := by omega
              rcases HFF2.out with ⟨rfl, rfl, hb, rfl, hbr⟩ | rfl
              · have y2 : w9.cell? ⟨hb, 2, none⟩ = some (.int .i64 bl) := (cell_of_row _ _ 2 _ _ _ ((HB9.out.block hb (Array.getElem?_eq_some_iff.1 hbr).1).trans hbr)).trans rfl
                clear hbr
                go_wp2_with fail
                go_quiet (fail)
                go_wp2
                go_roundw
                case rel => exact ⟨j + 1, by omega, by go_num, Lib.hid (drewN_below HB9.out _)⟩
                case measure => simp [intOf]; omega
              · go_wp2_with fail
                go_quiet (fail)
                go_wp2
                go_roundw
                case rel => exact ⟨j + 1, by omega, by go_num, Lib.hid (drewN_below HB9.out _)⟩
                case measure => simp [intOf]; omega
          · have HPJ : Hid (P j = false) := Lib.hid (by rw [HPP.out]; simp [hjm])
            have hu : LeafNew _ w3 (u1 j) (leafS ids P fz N j) := HN3.out j hlt2
            rw [leafS, if_neg (by rw [HPJ.out]; exact Bool.false_ne_true)] at hu
            have hu2 : u1 j = .nilIface := hu
            rw [hu2] at r0
            clear hu hu2
            go_wp2_with fail
            refine (zzCseNil fA fN fC _).mono ?_
            rintro e w5 ⟨rfl, hb5⟩
            have HB5 := Lib.hid (HBV.out.trans (hb5.mono HBV.out.size))
            clear hb5 r0 r1 HBV
            obtain ⟨l0, l1, _, _⟩ := (HS3.out.up HB5.out).rowL.cells hlt2
            rw [HFO.out] at l1
            rw [show vals P b q j = .nilIface by simp [vals, HPJ.out]] at l0
            go_wp2_with fail
            refine (zzCseNil fA fN fC _).mono ?_
            rintro e w9 ⟨rfl, hb9⟩
            have HB9 := Lib.hid (HB5.out.trans (hb9.mono HB5.out.size))
            clear hb9 l0 l1 HB5
            obtain ⟨_, m1, _, _⟩ := (HS3.out.up HB9.out).rowL.cells hlt2
            obtain ⟨_, m3, _, _⟩ := (CseRow.up HR3.out HB9.out).cells hlt2
            rw [HFO.out] at m1 m3
            have x1 : (0 : Int) ≤ (j : Int) := by omega
            have x2 : (j : Int) < (q : Int) := by omega
            rcases HFF2.out with ⟨rfl, rfl, hb, rfl, hbr⟩ | rfl
            · have y2 : w9.cell? ⟨hb, 2, none⟩ = some (.int .i64 bl) := (cell_of_row _ _ 2 _ _ _ ((HB9.out.block hb (Array.getElem?_eq_some_iff.1 hbr).1).trans hbr)).trans rfl
              clear hbr
              go_wp2_with fail
              go_quiet (fail)
              go_wp2
              go_roundw
              case rel => exact ⟨j + 1, by omega, by go_num, Lib.hid (drewN_below HB9.out _)⟩
              case measure => simp [intOf]; omega
            · go_wp2_with fail
              go_quiet (fail)
              go_wp2
              go_roundw
              case rel => exact ⟨j + 1, by omega, by go_num, Lib.hid (drewN_below HB9.out _)⟩
              case measure => simp [intOf]; omega
        · obtain rfl : j = q := by omega
          go_wp2
          go_ret
          exact ⟨rfl, HS3.out.below.trans (HBV.out.mono HS3.out.below.size)⟩

end Go.Proofs.YtegabjiaekfmbaaFmt.fnCloneCommaSeparatedExprsSpec
