/-
  zzBuildChain: the walk (n008_165).
-/
import Derived.Test.YtpcoeakcnmeblaaFmtFrN
import Derived.Test.YtpcoeakcnmeblaaFmtFrM
import Derived.Laws.Cover3
import Derived.Deep.Cut
import Derived.OwnWalk
namespace Go.Proofs.YtpcoeakcnmeblaaFmt
open Go Go.RowKit
namespace Fr

theorem infoFsP : (Tryf.prog.info? 34).map (fun i => (i.zero, i.size, i.bytes)) = some (some (.pointer none), 1, 8) := by kernel_rfl
theorem infoVarP : (Tryf.prog.info? 47).map (fun i => (i.zero, i.size, i.bytes)) = some (some (.pointer none), 1, 8) := by kernel_rfl
theorem infoVarS : (Tryf.prog.info? 26).map (fun i => (i.zero, i.size, i.bytes)) = some (some (.slice none 0 0), 1, 24) := by kernel_rfl
theorem infoIfS : (Tryf.prog.info? 33).map (fun i => (i.zero, i.size, i.bytes)) = some (some (.slice none 0 0), 1, 24) := by kernel_rfl
theorem infoIf : (Tryf.prog.info? 46).map (fun i => (i.zero, i.size, i.bytes)) = some (some (.agg #[.nilIface, .slice none 0 0]), 2, 40) := by kernel_rfl
theorem ifMade {w : World} {g n : Nat} (h : w.ownsRow g 46 2 (.slice (some ⟨g, 0, none⟩) n n) n (madeCells (Value.agg #[.nilIface, .slice none 0 0]).cells (n * 2)).toList) : IfRow w g n (fun _ => .nilIface) := by
  rcases h.2 with ⟨hv, _⟩ | ⟨g', cap, cur, hv, _, hh, _⟩
  · cases hv
  · cases hv
    refine ⟨cur, hh, fun i hi => ?_⟩
    have h0 := h.cellAt (i * 2) (by omega)
    have h1 := h.cellAt (i * 2 + 1) (by omega)
    rw [cell_of_row _ _ _ _ _ _ hh] at h0 h1
    rw [h0, h1]
    constructor
    · simp [madeCells, Value.cells, List.getElem?_map, List.getElem?_range (show i * 2 < n * 2 by omega)]
    · have e : (i * 2 + 1) % 2 = 1 := by omega
      simp [madeCells, Value.cells, List.getElem?_map, List.getElem?_range (show i * 2 + 1 < n * 2 by omega), e]

theorem Same.refl (w : World) : Same w w := ⟨rfl, rfl, rfl, rfl⟩
theorem results_tmp4 {fn : Func} {t u v x : Tmp} (h : fn.results = #[.tmp t, .tmp u, .tmp v, .tmp x]) (tmps : Array Value) (P : Program) (w : World) :
    (results fn tmps).run P w = .ok (.tuple #[tmps.getD t undef, tmps.getD u undef, tmps.getD v undef, tmps.getD x undef]) w := by simp [results, h]
set_option maxHeartbeats 6400000 in
set_option maxRecDepth 100000 in
theorem buildChain (b0 n : Nat) (f : Nat → Lev) (w : World) (hn0 : 0 < n) (hL : LevsAt w w.heap.size (some ⟨b0, 0, none⟩) n f) (hn : n ≤ 4096) (hl : ∀ i, i < n → (f i).ct.length ≤ 1048576) :
    Calls Tryf.prog 8 #[.slice (some ⟨b0, 0, none⟩) n n] w fun e w' => ∃ H E K S R, e = .returned (.tuple #[sl H n, sl E n, sl K n, sl S n]) ∧ Built w' w.heap.size H E K S 0 n f R ∧ Below w.heap.size w w' := by
  obtain ⟨i0, hi0, hz0, hz1, hz2⟩ := info_parts infoFsP
  obtain ⟨i1, hi1, hy0, hy1, hy2⟩ := info_parts infoVarP
  obtain ⟨i2, hi2, hx0, hx1, hx2⟩ := info_parts infoVarS
  obtain ⟨i3, hi3, hv0, hv1, hv2⟩ := info_parts infoIfS
  obtain ⟨i4, hi4, hu0, hu1, hu2⟩ := info_parts infoIf
  obtain ⟨bb, oo, e1, hb0, hcc⟩ := hL.2 hn0
  cases e1
  have HN := Lib.hid hl
  have HC := Lib.hid hcc
  clear hL hl hcc
  go_enter Tryf.func8, Tryf.ntmps8
  go_wp2_with (first
    | (refine wpList_make_full _ rfl _ _ 25 rfl w.heap.size 34 i0 (.pointer none) 1 Tryf.underlying25 hi0 hz0 hz1 .i64 .i64 _ _ n rfl rfl rfl rfl (by rw [hz2]; omega) (by unfold maxLen; omega) (Nat.le_refl _) ?_; intro w1 hown hg; have R1 := Lib.hid (rowMade (z := .pointer none) rfl hown); have B1 := Lib.hid ((Below.refl w.heap.size w).grown hg (Nat.le_refl _) (by simp)); clear hown hg)
    | (refine wpList_make_full _ rfl _ _ 26 rfl w1.heap.size 47 i1 (.pointer none) 1 Tryf.underlying26 hi1 hy0 hy1 .i64 .i64 _ _ n rfl rfl rfl rfl (by rw [hy2]; omega) (by unfold maxLen; omega) (Nat.le_refl _) ?_; intro w2 hown hg; have R2 := Lib.hid (rowMade (z := .pointer none) rfl hown); have B2 := Lib.hid ((Below.refl w1.heap.size w1).grown hg (Nat.le_refl _) (by simp)); clear hown hg)
    | (refine wpList_make_full _ rfl _ _ 27 rfl w2.heap.size 26 i2 (.slice none 0 0) 1 Tryf.underlying27 hi2 hx0 hx1 .i64 .i64 _ _ n rfl rfl rfl rfl (by rw [hx2]; omega) (by unfold maxLen; omega) (Nat.le_refl _) ?_; intro w3 hown hg; have R3 := Lib.hid (rowMade (z := .slice none 0 0) rfl hown); have B3 := Lib.hid ((Below.refl w2.heap.size w2).grown hg (Nat.le_refl _) (by simp)); clear hown hg)
    | (refine wpList_make_full _ rfl _ _ 28 rfl w3.heap.size 33 i3 (.slice none 0 0) 1 Tryf.underlying28 hi3 hv0 hv1 .i64 .i64 _ _ n rfl rfl rfl rfl (by rw [hv2]; omega) (by unfold maxLen; omega) (Nat.le_refl _) ?_; intro w4 hown hg; have R4 := Lib.hid (rowMade (z := .slice none 0 0) rfl hown); have B4 := Lib.hid ((Below.refl w3.heap.size w3).grown hg (Nat.le_refl _) (by simp)); clear hown hg))
  have s1 := B1.out.size
  have s2 := B2.out.size
  have s3 := B3.out.size
  have s4 := B4.out.size
  have HS0 : Hid (∃ R, Built w4 w.heap.size w.heap.size w1.heap.size w2.heap.size w3.heap.size n n f R) := Lib.hid ⟨fun _ => ⟨0, 0, 0, 0, 0, fun _ => 0, fun _ => 0⟩,
    (((R1.out.keep (B2.out.block _ R1.out.lt)).keep (B3.out.block _ (Nat.lt_of_lt_of_le R1.out.lt s2))).keep (B4.out.block _ (Nat.lt_of_lt_of_le R1.out.lt (Nat.le_trans s2 s3)))).congr fun i hi => by rw [if_neg (by omega)],
    ((R2.out.keep (B3.out.block _ R2.out.lt)).keep (B4.out.block _ (Nat.lt_of_lt_of_le R2.out.lt s3))).congr fun i hi => by rw [if_neg (by omega)],
    (R3.out.keep (B4.out.block _ R3.out.lt)).congr fun i hi => by rw [if_neg (by omega)],
    R4.out.congr fun i hi => by rw [if_neg (by omega)],
    fun i h1 h2 => absurd h2 (by omega), fun i h1 h2 => absurd h2 (by omega), fun i h1 h2 => absurd h2 (by omega), fun i j h1 h2 h3 => absurd h3 (by omega)⟩
  have HB4 : Hid (Below w.heap.size w w4) := Lib.hid (B1.out.trans ((B2.out.mono s1).trans ((B3.out.mono (by omega)).trans (B4.out.mono (by omega)))))
  have hlts : w.heap.size < w1.heap.size ∧ w1.heap.size < w2.heap.size ∧ w2.heap.size < w3.heap.size ∧ w3.heap.size < w4.heap.size := ⟨R1.out.lt, R2.out.lt, R3.out.lt, R4.out.lt⟩
  clear R1 R2 R3 R4 B1 B2 B3 B4 s1 s2 s3 s4 hi0 hz0 hz1 hz2 hi2 hx0 hx1 hx2 hi3 hv0 hv1 hv2
  go_wp2
  go_loopw [11] (fun i wr => ∃ q : Nat, q ≤ n ∧ i = .int .i64 ((q : Int) - 1) ∧ Hid (∃ R, Built wr w.heap.size w.heap.size w1.heap.size w2.heap.size w3.heap.size q n f R) ∧ Hid (Below w.heap.size w wr)) (fun i _ => match i with | .int _ z => (z + 1).toNat | _ => 0)
  case atStart => exact ⟨n, Nat.le_refl _, rfl, HS0, HB4⟩
  case round =>
    clear HS0 HB4
    obtain ⟨q, hq, rfl, HS, HBW⟩ := hrel
    obtain ⟨wo, rfl⟩ : ∃ wo : World, wo = wr := ⟨_, rfl⟩
    cases q with
    | zero =>
      go_wp2
      refine bodyPost_ret (results_tmp4 rfl _ _ _) rfl ?_
      obtain ⟨R, hR⟩ := HS.out
      exact ⟨_, _, _, _, R, rfl, hR, HBW.out⟩
    | succ p =>
      have hlt : p < n := by omega
      have hii : (((p + 1 : Nat) : Int) - 1) = (p : Int) := by omega
      rw [hii]
      clear hii
      obtain ⟨R, hR⟩ := HS.out
      have HR := Lib.hid hR
      have hbs := HBW.out.size
      have hE0 : w.heap.size ≤ w1.heap.size := by omega
      have hEs : w1.heap.size < wo.heap.size := hR.exprs.lt
      obtain ⟨x0, x1, x2, _⟩ := (HC.out p hlt).below HBW.out hb0
      have hb1 : b0 < wo.heap.size := by omega
      have hb2 : b0 ≠ wo.heap.size := by omega
      have hex := hR.exprs.cell hlt
      rw [if_neg (by omega)] at hex
      obtain ⟨hx1, hx2⟩ := hex
      clear hR HS
      obtain ⟨vn, hvn⟩ : ∃ vn, vn = (f p).vn := ⟨_, rfl⟩
      obtain ⟨en, hen⟩ : ∃ en, en = (f p).en := ⟨_, rfl⟩
      obtain ⟨et, het⟩ : ∃ et, et = (f p).et := ⟨_, rfl⟩
      rw [← hvn, Nat.zero_add] at x0
      rw [← hen, Nat.zero_add] at x1
      rw [← het, Nat.zero_add] at x2
      have HE := Lib.hid (show _ ∧ _ ∧ _ from ⟨hvn, hen, het⟩)
      clear hvn hen het
      go_upto_region 11 with (fail)
      obtain ⟨WA, hWA⟩ : ∃ WA, WA = wo.alloc (.cells #[.slice none 0 0, .slice none 0 0, .slice none 0 0, .pointer none, .nilIface, .string vn, .slice none 0 0] 39 (0, 0)) := ⟨_, rfl⟩
      rw [← hWA]
      have hA : Same (WA) WA := ⟨rfl, rfl, rfl, rfl⟩
      have hA1 : WA.heap[wo.heap.size]? = some (newFs (f p).vn) := by
        rw [hWA, ← HE.out.1]
        exact heap_alloc_new wo _
      have hA2 : Kept (fun _ => False) wo WA := by
        rw [hWA]
        exact ⟨rfl, rfl, rfl, by simp, fun b hb _ => Below.heap_alloc wo _ b hb⟩
      have hA3 := Lib.hid (show WA.heap.size = wo.heap.size + 1 by rw [hWA]; simp)
      have x1' : WA.cell? ⟨b0, p * 4 + 1, none⟩ = some (.bool en) := (World.cell?_of_block (hA2.block b0 hb1 (fun e => e))).trans x1
      have x2' : WA.cell? ⟨b0, p * 4 + 2, none⟩ = some (.string et) := (World.cell?_of_block (hA2.block b0 hb1 (fun e => e))).trans x2
      have hx1' : WA.cell? ⟨w1.heap.size, p, none⟩ = some (.pointer none) := (World.cell?_of_block (hA2.block w1.heap.size hEs (fun e => e))).trans hx1
      have hx2' : WA.frozen? ⟨w1.heap.size, p, none⟩ = false := by
        obtain ⟨C, hC, _⟩ := HR.out.exprs
        exact frozen_of ((hA2.block w1.heap.size hEs (fun e => e)).trans hC) p
      have HA1 := Lib.hid hA1
      have HA2 := Lib.hid hA2
      clear hWA hA hA1 hA2 x0 x1 x2 hx1 hx2
      cases en with
      | true =>
        have HH : Hid (HeadSt wo WA w1.heap.size p n (f p) (fun i => if p + 1 ≤ i ∧ (f i).en = false then ptr (R i).e else .pointer none) wo.heap.size 0 0) :=
          Lib.hid (head_nil HE.out.2.1.symm (if_neg (by omega)) HR.out.exprs HA1.out HA2.out)
        clear hx1' hx2' x2'
        obtain ⟨we, hwe⟩ : ∃ we, we = WA := ⟨_, rfl⟩
        subst hwe
        have hsw : wo.heap.size ≤ we.heap.size := HH.out.kept.size
        have bwe : Below w.heap.size w we := HBW.out.trans (HH.out.kept.below (fun k e => by subst e; exact hE0) hbs)
        have BWE := Lib.hid bwe
        obtain ⟨_, _, _, ca, cc, r3, r4⟩ := (HC.out p hlt).below bwe hb0
        obtain ⟨m, hmm⟩ : ∃ m, m = (f p).ct.length := ⟨_, rfl⟩
        rw [← hmm, Nat.zero_add] at r3
        have hm := HN.out p hlt
        rw [← hmm] at hm
        have HMM := Lib.hid hmm
        have R4 := Lib.hid r4
        clear hmm r4 bwe
        go_wp2_with (first
          | (refine wpList_make_full _ rfl _ _ 26 rfl we.heap.size 47 i1 (.pointer none) 1 Tryf.underlying26 hi1 hy0 hy1 .i64 .i64 _ _ m rfl rfl rfl rfl (by rw [hy2]; omega) (by unfold maxLen; omega) (Nat.le_refl _) ?_; intro w5 hown hg; have R5 := Lib.hid (rowMade (z := .pointer none) rfl hown); have B5 := Lib.hid ((Below.refl we.heap.size we).grown hg (Nat.le_refl _) (by simp)); clear hown hg)
          | (refine wpList_make_full _ rfl _ _ 33 rfl w5.heap.size 46 i4 (.agg #[.nilIface, .slice none 0 0]) 2 Tryf.underlying33 hi4 hu0 hu1 .i64 .i64 _ _ m rfl rfl rfl rfl (by rw [hu2]; omega) (by unfold maxLen; omega) (Nat.le_refl _) ?_; intro w6 hown hg; have R6 := Lib.hid (ifMade hown); have B6 := Lib.hid ((Below.refl w5.heap.size w5).grown hg (Nat.le_refl _) (by simp)); clear hown hg))
        have hz5 := B5.out.size
        have hz6 := B6.out.size
        have V0 : Hid (∃ v g, VarsSt w6 w6 w5.heap.size we.heap.size m 0 (f p) p v g) := Lib.hid ⟨fun _ => 0, fun _ => 0, (R5.out.keep (B6.out.block _ R5.out.lt)).congr fun j _ => by rw [if_neg (Nat.not_lt_zero j)], R6.out.congr fun j _ => by rw [if_neg (Nat.not_lt_zero j)], fun j hj => absurd hj (Nat.not_lt_zero j), Kept.refl _ _⟩
        have hsw5 : Hid (we.heap.size ≤ w5.heap.size) := Lib.hid hz5
        have M6 : Hid (Kept (fun _ => False) we w6) := Lib.hid ((Kept.ofBelow B5.out).trans (Kept.ofBelow B6.out))
        have r3' : Hid (we.cell? ⟨b0, p * 4 + 3, none⟩ = some (.slice ca m cc)) := Lib.hid r3
        clear r3
        go_wp2
        go_loopw [16] (fun j wr => ∃ r : Nat, r ≤ m ∧ j = .int .i64 r ∧ Hid (∃ v g, VarsSt w6 wr w5.heap.size we.heap.size m r (f p) p v g)) (fun j _ => m - (intOf j).toNat)
        case atStart => exact ⟨0, Nat.zero_le _, rfl, V0⟩
        case round =>
          clear V0
          obtain ⟨r, hr, rfl, HV⟩ := hrel
          obtain ⟨v, g, hv⟩ := HV.out
          have HV2 := Lib.hid hv
          have kw : ∀ b, b < we.heap.size → wr.heap[b]? = we.heap[b]? := fun b hb => by
            rw [hv.kept.block b (by omega) (fun e => by rcases e with e | e <;> omega)]
            exact M6.out.block b hb (fun e => e)
          have KW := Lib.hid kw
          have hvs := hv.kept.size
          have hbw := BWE.out.size
          have s3 : wr.cell? ⟨b0, p * 4 + 3, none⟩ = some (.slice ca m cc) := by
            rw [World.cell?_of_block (a := ⟨b0, p * 4 + 3, none⟩) (kw b0 (by omega))]
            exact r3'.out
          clear hv HV kw
          by_cases hlt2 : r < m
          · obtain ⟨b2, off2, rfl, hb2, hcc2⟩ := StrsAt.cell (k := r) (n := (f p).ct.length) R4.out (by rw [← HMM.out]; exact hlt2)
            have c2 : wr.cell? ⟨b2, off2 + r, none⟩ = some (.string ((f p).tag r)) := by
              rw [World.cell?_of_block (a := ⟨b2, off2 + r, none⟩) (KW.out b2 (by omega))]
              exact hcc2 r (by rw [← HMM.out]; exact hlt2)
            clear hcc2
            have HMV := Lib.hid (makeVar ((f p).tag r) ((p : Int) + 1) ((r : Int) + 1) wr)
            have hst := fun b gb w1 w2 => HV2.out.step (b := b) (gb := gb) (w1 := w1) (w2 := w2)
            have HST := Lib.hid hst
            obtain ⟨d1, d2⟩ := HV2.out.row.cell hlt2
            have e1 := HV2.out.ifs.cell hlt2
            rw [if_neg (Nat.lt_irrefl r)] at d1 e1
            have H1 := Lib.hid (show _ ∧ _ from ⟨d1, d2⟩)
            have H2 := Lib.hid e1
            have hlc : we.heap.size < wr.heap.size ∧ w5.heap.size < wr.heap.size := ⟨HV2.out.row.lt, HV2.out.ifs.lt⟩
            have hcne : we.heap.size ≠ w5.heap.size := by have := R5.out.lt; omega
            clear hst d1 d2 e1
            go_wp2_with fail
            refine HMV.out.mono ?_
            rintro e wm ⟨⟨b, gb, he, _, _, hnode⟩, hbm⟩
            rw [ptr] at he
            subst he
            have f1 : wm.cell? ⟨we.heap.size, r, none⟩ = some (.pointer none) := (hbm.cell (p := ⟨we.heap.size, r, none⟩) hlc.1).trans H1.out.1
            have f2 : wm.frozen? ⟨we.heap.size, r, none⟩ = false := (hbm.frozen (p := ⟨we.heap.size, r, none⟩) hlc.1).trans H1.out.2
            have f3 : wm.cell? ⟨w5.heap.size, r * 2, none⟩ = some .nilIface := (hbm.cell (p := ⟨w5.heap.size, r * 2, none⟩) hlc.2).trans H2.out.1
            have f4 : wm.frozen? ⟨w5.heap.size, r * 2, none⟩ = false := (hbm.frozen (p := ⟨w5.heap.size, r * 2, none⟩) hlc.2).trans H2.out.2.2
            have HN2 := Lib.hid (HST.out b gb wm _ hbm hnode (Same.refl _))
            have hcne2 : w5.heap.size ≠ we.heap.size := fun e => hcne e.symm
            clear hnode hbm HMV
            go_wp2
            go_roundw
            case rel => exact ⟨r + 1, by omega, by go_num, Lib.hid ⟨_, _, HN2.out⟩⟩
            case measure => simp [intOf]; omega
          · obtain rfl : m = r := by omega
            have kwo : ∀ b, b < wo.heap.size → b ≠ w1.heap.size → wr.heap[b]? = wo.heap[b]? := fun b hb hne => by
              rw [KW.out b (by omega)]
              exact HH.out.kept.block b hb hne
            have lK : w2.heap.size < wo.heap.size := HR.out.conds.lt
            have lS : w3.heap.size < wo.heap.size := HR.out.slots.lt
            have lH : w.heap.size < wo.heap.size := HR.out.heads.lt
            obtain ⟨CK, hCK, cK⟩ := HR.out.conds
            obtain ⟨CS, hCS, cS⟩ := HR.out.slots
            obtain ⟨CH, hCH, cH⟩ := HR.out.heads
            have yK := (kwo w2.heap.size lK (by omega)).trans hCK
            have yS := (kwo w3.heap.size lS (by omega)).trans hCS
            have yH := (kwo w.heap.size lH (by omega)).trans hCH
            have yF := (KW.out wo.heap.size (by have := (Array.getElem?_eq_some_iff.1 HH.out.spec).1; omega)).trans HH.out.spec
            have aK : wr.cell? ⟨w2.heap.size, p, none⟩ = some (.slice none 0 0) := (cell_of_row _ _ p _ _ _ yK).trans ((cK p hlt).trans (congrArg some (if_neg (by omega))))
            have aS : wr.cell? ⟨w3.heap.size, p, none⟩ = some (.slice none 0 0) := (cell_of_row _ _ p _ _ _ yS).trans ((cS p hlt).trans (congrArg some (if_neg (by omega))))
            have aH : wr.cell? ⟨w.heap.size, p, none⟩ = some (.pointer none) := (cell_of_row _ _ p _ _ _ yH).trans ((cH p hlt).trans (congrArg some (if_neg (by omega))))
            have aF2 : wr.cell? ⟨wo.heap.size, 2, none⟩ = some (.slice none 0 0) := (cell_of_row _ _ 2 _ _ _ yF).trans rfl
            have aF3 : wr.cell? ⟨wo.heap.size, 3, none⟩ = some (.pointer none) := (cell_of_row _ _ 3 _ _ _ yF).trans rfl
            have zK := frozen_of yK p
            have zS := frozen_of yS p
            have zH := frozen_of yH p
            have zF2 := frozen_of yF 2
            have zF3 := frozen_of yF 3
            have n1 : w2.heap.size ≠ w3.heap.size := by omega
            have n2 : w2.heap.size ≠ wo.heap.size := by omega
            have n3 : w3.heap.size ≠ wo.heap.size := by omega
            have n4 : w.heap.size ≠ w2.heap.size := by omega
            have n5 : w.heap.size ≠ w3.heap.size := by omega
            have n6 : w.heap.size ≠ wo.heap.size := by omega
            have n1' : w3.heap.size ≠ w2.heap.size := by omega
            have n2' : wo.heap.size ≠ w2.heap.size := by omega
            have n3' : wo.heap.size ≠ w3.heap.size := by omega
            have n4' : w2.heap.size ≠ w.heap.size := by omega
            have n5' : w3.heap.size ≠ w.heap.size := by omega
            have n6' : wo.heap.size ≠ w.heap.size := by omega
            have bwr : Below w.heap.size w wr := (BWE.out.trans (M6.out.below (fun _ e => e.elim) (by omega))).trans (HV2.out.kept.below (fun k e => by rcases e with e | e <;> omega) (by omega))
            have BWR := Lib.hid bwr
            by_cases hpn : p + 1 < n
            · have aO : wr.cell? ⟨w.heap.size, p + 1, none⟩ = some (.pointer (some ⟨(R (p + 1)).fs, 0, none⟩)) := (cell_of_row _ _ (p + 1) _ _ _ yH).trans ((cH (p + 1) hpn).trans (congrArg some (if_pos (by omega))))
              have HO := Lib.hid (show outerOf n R p = ptr (R (p + 1)).fs from if_pos hpn)
              clear kwo hCK cK hCS cS hCH cH yK yS yH yF bwr
              go_wp2
              go_roundw
              case rel =>
                refine ⟨p, by omega, rfl, Lib.hid ⟨_, HR.out.push hbs hlt HH.out M6.out (Nat.le_refl _) hsw5.out (by rw [← HMM.out]; exact HV2.out) (Same.refl _) (.inl (Same.refl _)) ?_⟩, Lib.hid (((((BWR.out.setCell (by show _ ≤ w2.heap.size; omega) _).setCell (by show _ ≤ w3.heap.size; omega) _).setCell (by show _ ≤ wo.heap.size; omega) _).setCell (by show _ ≤ wo.heap.size; omega) _).setCell (by show _ ≤ w.heap.size; omega) _)⟩
                rw [HO.out, ← HMM.out]
                exact Same.refl _
              case measure => simp
            · have HO := Lib.hid (show outerOf n R p = .pointer none from if_neg hpn)
              clear kwo hCK cK hCS cS hCH cH yK yS yH yF bwr
              go_wp2
              go_roundw
              case rel =>
                refine ⟨p, by omega, rfl, Lib.hid ⟨_, HR.out.push hbs hlt HH.out M6.out (Nat.le_refl _) hsw5.out (by rw [← HMM.out]; exact HV2.out) (Same.refl _) (.inr ⟨rfl, HO.out⟩) ?_⟩, Lib.hid ((((BWR.out.setCell (by show _ ≤ w2.heap.size; omega) _).setCell (by show _ ≤ w3.heap.size; omega) _).setCell (by show _ ≤ wo.heap.size; omega) _).setCell (by show _ ≤ w.heap.size; omega) _)⟩
                rw [← HMM.out]
                exact Same.refl _
              case measure => simp
      | false =>
        have HMV := Lib.hid (makeVar et ((p : Int) + 1) 0 WA)
        have HX := Lib.hid (show _ ∧ _ from ⟨hx1', hx2'⟩)
        clear hx1' hx2'
        go_wp2_with fail
        refine HMV.out.mono ?_
        rintro e wm ⟨⟨b, gb, he, _, _, hnode⟩, hbm⟩
        rw [ptr] at he
        subst he
        have hlA : wo.heap.size < WA.heap.size := (Array.getElem?_eq_some_iff.1 HA1.out).1
        have f1 : wm.cell? ⟨w1.heap.size, p, none⟩ = some (.pointer none) := (hbm.cell (p := ⟨w1.heap.size, p, none⟩) (by show w1.heap.size < _; omega)).trans HX.out.1
        have f2 : wm.frozen? ⟨w1.heap.size, p, none⟩ = false := (hbm.frozen (p := ⟨w1.heap.size, p, none⟩) (by show w1.heap.size < _; omega)).trans HX.out.2
        have hF := (hbm.block wo.heap.size hlA).trans HA1.out
        have f3 : wm.cell? ⟨wo.heap.size, 4, none⟩ = some .nilIface := (cell_of_row _ _ 4 _ _ _ hF).trans rfl
        have f4 := frozen_of hF 4
        have hnE : w1.heap.size ≠ wo.heap.size := by omega
        have hnE2 : wo.heap.size ≠ w1.heap.size := by omega
        rw [HE.out.2.2] at hnode
        have HHp : Hid (HeadSt wo ((wm.setCell ⟨w1.heap.size, p, none⟩ (ptr b)).setCell ⟨wo.heap.size, 4, none⟩ (vi b)) w1.heap.size p n (f p) (fun i => if p + 1 ≤ i ∧ (f i).en = false then ptr (R i).e else .pointer none) wo.heap.size b gb) :=
          Lib.hid (head_var HE.out.2.1.symm HR.out.exprs HA1.out HA2.out hbm hnode (Same.refl _))
        clear hnode hbm HMV hF x1' x2'
        go_upto_region 14 with (fail)
        obtain ⟨we, hwe⟩ : ∃ we, we = (wm.setCell ⟨w1.heap.size, p, none⟩ (.pointer (some ⟨b, 0, none⟩))).setCell ⟨wo.heap.size, 4, none⟩ (.iface 47 (.pointer (some ⟨b, 0, none⟩))) := ⟨_, rfl⟩
        rw [← hwe]
        have HH : Hid (HeadSt wo we w1.heap.size p n (f p) (fun i => if p + 1 ≤ i ∧ (f i).en = false then ptr (R i).e else .pointer none) wo.heap.size b gb) := by
          rw [hwe]
          exact HHp
        clear hwe HHp f1 f2 f3 f4
        have hsw : wo.heap.size ≤ we.heap.size := HH.out.kept.size
        have bwe : Below w.heap.size w we := HBW.out.trans (HH.out.kept.below (fun k e => by subst e; exact hE0) hbs)
        have BWE := Lib.hid bwe
        obtain ⟨_, _, _, ca, cc, r3, r4⟩ := (HC.out p hlt).below bwe hb0
        obtain ⟨m, hmm⟩ : ∃ m, m = (f p).ct.length := ⟨_, rfl⟩
        rw [← hmm, Nat.zero_add] at r3
        have hm := HN.out p hlt
        rw [← hmm] at hm
        have HMM := Lib.hid hmm
        have R4 := Lib.hid r4
        clear hmm r4 bwe
        go_wp2_with (first
          | (refine wpList_make_full _ rfl _ _ 26 rfl we.heap.size 47 i1 (.pointer none) 1 Tryf.underlying26 hi1 hy0 hy1 .i64 .i64 _ _ m rfl rfl rfl rfl (by rw [hy2]; omega) (by unfold maxLen; omega) (Nat.le_refl _) ?_; intro w5 hown hg; have R5 := Lib.hid (rowMade (z := .pointer none) rfl hown); have B5 := Lib.hid ((Below.refl we.heap.size we).grown hg (Nat.le_refl _) (by simp)); clear hown hg)
          | (refine wpList_make_full _ rfl _ _ 33 rfl w5.heap.size 46 i4 (.agg #[.nilIface, .slice none 0 0]) 2 Tryf.underlying33 hi4 hu0 hu1 .i64 .i64 _ _ m rfl rfl rfl rfl (by rw [hu2]; omega) (by unfold maxLen; omega) (Nat.le_refl _) ?_; intro w6 hown hg; have R6 := Lib.hid (ifMade hown); have B6 := Lib.hid ((Below.refl w5.heap.size w5).grown hg (Nat.le_refl _) (by simp)); clear hown hg))
        have hz5 := B5.out.size
        have hz6 := B6.out.size
        have V0 : Hid (∃ v g, VarsSt w6 w6 w5.heap.size we.heap.size m 0 (f p) p v g) := Lib.hid ⟨fun _ => 0, fun _ => 0, (R5.out.keep (B6.out.block _ R5.out.lt)).congr fun j _ => by rw [if_neg (Nat.not_lt_zero j)], R6.out.congr fun j _ => by rw [if_neg (Nat.not_lt_zero j)], fun j hj => absurd hj (Nat.not_lt_zero j), Kept.refl _ _⟩
        have hsw5 : Hid (we.heap.size ≤ w5.heap.size) := Lib.hid hz5
        have M6 : Hid (Kept (fun _ => False) we w6) := Lib.hid ((Kept.ofBelow B5.out).trans (Kept.ofBelow B6.out))
        have r3' : Hid (we.cell? ⟨b0, p * 4 + 3, none⟩ = some (.slice ca m cc)) := Lib.hid r3
        clear r3
        go_wp2
        go_loopw [16] (fun j wr => ∃ r : Nat, r ≤ m ∧ j = .int .i64 r ∧ Hid (∃ v g, VarsSt w6 wr w5.heap.size we.heap.size m r (f p) p v g)) (fun j _ => m - (intOf j).toNat)
        case atStart => exact ⟨0, Nat.zero_le _, rfl, V0⟩
        case round =>
          clear V0
          obtain ⟨r, hr, rfl, HV⟩ := hrel
          obtain ⟨v, g, hv⟩ := HV.out
          have HV2 := Lib.hid hv
          have kw : ∀ b, b < we.heap.size → wr.heap[b]? = we.heap[b]? := fun b hb => by
            rw [hv.kept.block b (by omega) (fun e => by rcases e with e | e <;> omega)]
            exact M6.out.block b hb (fun e => e)
          have KW := Lib.hid kw
          have hvs := hv.kept.size
          have hbw := BWE.out.size
          have s3 : wr.cell? ⟨b0, p * 4 + 3, none⟩ = some (.slice ca m cc) := by
            rw [World.cell?_of_block (a := ⟨b0, p * 4 + 3, none⟩) (kw b0 (by omega))]
            exact r3'.out
          clear hv HV kw
          by_cases hlt2 : r < m
          · obtain ⟨b2, off2, rfl, hb2, hcc2⟩ := StrsAt.cell (k := r) (n := (f p).ct.length) R4.out (by rw [← HMM.out]; exact hlt2)
            have c2 : wr.cell? ⟨b2, off2 + r, none⟩ = some (.string ((f p).tag r)) := by
              rw [World.cell?_of_block (a := ⟨b2, off2 + r, none⟩) (KW.out b2 (by omega))]
              exact hcc2 r (by rw [← HMM.out]; exact hlt2)
            clear hcc2
            have HMV := Lib.hid (makeVar ((f p).tag r) ((p : Int) + 1) ((r : Int) + 1) wr)
            have hst := fun b gb w1 w2 => HV2.out.step (b := b) (gb := gb) (w1 := w1) (w2 := w2)
            have HST := Lib.hid hst
            obtain ⟨d1, d2⟩ := HV2.out.row.cell hlt2
            have e1 := HV2.out.ifs.cell hlt2
            rw [if_neg (Nat.lt_irrefl r)] at d1 e1
            have H1 := Lib.hid (show _ ∧ _ from ⟨d1, d2⟩)
            have H2 := Lib.hid e1
            have hlc : we.heap.size < wr.heap.size ∧ w5.heap.size < wr.heap.size := ⟨HV2.out.row.lt, HV2.out.ifs.lt⟩
            have hcne : we.heap.size ≠ w5.heap.size := by have := R5.out.lt; omega
            clear hst d1 d2 e1
            go_wp2_with fail
            refine HMV.out.mono ?_
            rintro e wm ⟨⟨b, gb, he, _, _, hnode⟩, hbm⟩
            rw [ptr] at he
            subst he
            have f1 : wm.cell? ⟨we.heap.size, r, none⟩ = some (.pointer none) := (hbm.cell (p := ⟨we.heap.size, r, none⟩) hlc.1).trans H1.out.1
            have f2 : wm.frozen? ⟨we.heap.size, r, none⟩ = false := (hbm.frozen (p := ⟨we.heap.size, r, none⟩) hlc.1).trans H1.out.2
            have f3 : wm.cell? ⟨w5.heap.size, r * 2, none⟩ = some .nilIface := (hbm.cell (p := ⟨w5.heap.size, r * 2, none⟩) hlc.2).trans H2.out.1
            have f4 : wm.frozen? ⟨w5.heap.size, r * 2, none⟩ = false := (hbm.frozen (p := ⟨w5.heap.size, r * 2, none⟩) hlc.2).trans H2.out.2.2
            have HN2 := Lib.hid (HST.out b gb wm _ hbm hnode (Same.refl _))
            have hcne2 : w5.heap.size ≠ we.heap.size := fun e => hcne e.symm
            clear hnode hbm HMV
            go_wp2
            go_roundw
            case rel => exact ⟨r + 1, by omega, by go_num, Lib.hid ⟨_, _, HN2.out⟩⟩
            case measure => simp [intOf]; omega
          · obtain rfl : m = r := by omega
            have kwo : ∀ b, b < wo.heap.size → b ≠ w1.heap.size → wr.heap[b]? = wo.heap[b]? := fun b hb hne => by
              rw [KW.out b (by omega)]
              exact HH.out.kept.block b hb hne
            have lK : w2.heap.size < wo.heap.size := HR.out.conds.lt
            have lS : w3.heap.size < wo.heap.size := HR.out.slots.lt
            have lH : w.heap.size < wo.heap.size := HR.out.heads.lt
            obtain ⟨CK, hCK, cK⟩ := HR.out.conds
            obtain ⟨CS, hCS, cS⟩ := HR.out.slots
            obtain ⟨CH, hCH, cH⟩ := HR.out.heads
            have yK := (kwo w2.heap.size lK (by omega)).trans hCK
            have yS := (kwo w3.heap.size lS (by omega)).trans hCS
            have yH := (kwo w.heap.size lH (by omega)).trans hCH
            have yF := (KW.out wo.heap.size (by have := (Array.getElem?_eq_some_iff.1 HH.out.spec).1; omega)).trans HH.out.spec
            have aK : wr.cell? ⟨w2.heap.size, p, none⟩ = some (.slice none 0 0) := (cell_of_row _ _ p _ _ _ yK).trans ((cK p hlt).trans (congrArg some (if_neg (by omega))))
            have aS : wr.cell? ⟨w3.heap.size, p, none⟩ = some (.slice none 0 0) := (cell_of_row _ _ p _ _ _ yS).trans ((cS p hlt).trans (congrArg some (if_neg (by omega))))
            have aH : wr.cell? ⟨w.heap.size, p, none⟩ = some (.pointer none) := (cell_of_row _ _ p _ _ _ yH).trans ((cH p hlt).trans (congrArg some (if_neg (by omega))))
            have aF2 : wr.cell? ⟨wo.heap.size, 2, none⟩ = some (.slice none 0 0) := (cell_of_row _ _ 2 _ _ _ yF).trans rfl
            have aF3 : wr.cell? ⟨wo.heap.size, 3, none⟩ = some (.pointer none) := (cell_of_row _ _ 3 _ _ _ yF).trans rfl
            have zK := frozen_of yK p
            have zS := frozen_of yS p
            have zH := frozen_of yH p
            have zF2 := frozen_of yF 2
            have zF3 := frozen_of yF 3
            have n1 : w2.heap.size ≠ w3.heap.size := by omega
            have n2 : w2.heap.size ≠ wo.heap.size := by omega
            have n3 : w3.heap.size ≠ wo.heap.size := by omega
            have n4 : w.heap.size ≠ w2.heap.size := by omega
            have n5 : w.heap.size ≠ w3.heap.size := by omega
            have n6 : w.heap.size ≠ wo.heap.size := by omega
            have n1' : w3.heap.size ≠ w2.heap.size := by omega
            have n2' : wo.heap.size ≠ w2.heap.size := by omega
            have n3' : wo.heap.size ≠ w3.heap.size := by omega
            have n4' : w2.heap.size ≠ w.heap.size := by omega
            have n5' : w3.heap.size ≠ w.heap.size := by omega
            have n6' : wo.heap.size ≠ w.heap.size := by omega
            have bwr : Below w.heap.size w wr := (BWE.out.trans (M6.out.below (fun _ e => e.elim) (by omega))).trans (HV2.out.kept.below (fun k e => by rcases e with e | e <;> omega) (by omega))
            have BWR := Lib.hid bwr
            by_cases hpn : p + 1 < n
            · have aO : wr.cell? ⟨w.heap.size, p + 1, none⟩ = some (.pointer (some ⟨(R (p + 1)).fs, 0, none⟩)) := (cell_of_row _ _ (p + 1) _ _ _ yH).trans ((cH (p + 1) hpn).trans (congrArg some (if_pos (by omega))))
              have HO := Lib.hid (show outerOf n R p = ptr (R (p + 1)).fs from if_pos hpn)
              clear kwo hCK cK hCS cS hCH cH yK yS yH yF bwr
              go_wp2
              go_roundw
              case rel =>
                refine ⟨p, by omega, rfl, Lib.hid ⟨_, HR.out.push hbs hlt HH.out M6.out (Nat.le_refl _) hsw5.out (by rw [← HMM.out]; exact HV2.out) (Same.refl _) (.inl (Same.refl _)) ?_⟩, Lib.hid (((((BWR.out.setCell (by show _ ≤ w2.heap.size; omega) _).setCell (by show _ ≤ w3.heap.size; omega) _).setCell (by show _ ≤ wo.heap.size; omega) _).setCell (by show _ ≤ wo.heap.size; omega) _).setCell (by show _ ≤ w.heap.size; omega) _)⟩
                rw [HO.out, ← HMM.out]
                exact Same.refl _
              case measure => simp
            · have HO := Lib.hid (show outerOf n R p = .pointer none from if_neg hpn)
              clear kwo hCK cK hCS cS hCH cH yK yS yH yF bwr
              go_wp2
              go_roundw
              case rel =>
                refine ⟨p, by omega, rfl, Lib.hid ⟨_, HR.out.push hbs hlt HH.out M6.out (Nat.le_refl _) hsw5.out (by rw [← HMM.out]; exact HV2.out) (Same.refl _) (.inr ⟨rfl, HO.out⟩) ?_⟩, Lib.hid ((((BWR.out.setCell (by show _ ≤ w2.heap.size; omega) _).setCell (by show _ ≤ w3.heap.size; omega) _).setCell (by show _ ≤ wo.heap.size; omega) _).setCell (by show _ ≤ w.heap.size; omega) _)⟩
                rw [← HMM.out]
                exact Same.refl _
              case measure => simp

end Fr
end Go.Proofs.YtpcoeakcnmeblaaFmt
