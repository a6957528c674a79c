/-
  The walk of FnCloneArraySourceWritesDoNotReachClone.
-/
import Derived.Test.YtegabjiaekfmbaaFmtArS
import Derived.StillTailTactics
namespace Go.Proofs.YtegabjiaekfmbaaFmt.fnCloneArraySourceWritesDoNotReachClone
open Go Go.RowKit Arr

theorem nwA (i : Nat) (h : i ≠ 11) : ¬ Wr 47 i := by
  rintro (⟨_, e⟩ | ⟨e, _⟩ | e | e | e)
  · exact h e
  all_goals exact absurd e (by decide)
theorem nwV (i : Nat) (h : i ≠ 0) : ¬ Wr 60 i := by
  rintro (⟨e, _⟩ | ⟨_, e⟩ | e | e | e)
  · exact absurd e (by decide)
  · exact h e
  all_goals exact absurd e (by decide)
theorem nwP (i : Nat) : ¬ Wr 57 i := by
  rintro (⟨e, _⟩ | ⟨e, _⟩ | e | e | e)
  all_goals exact absurd e (by decide)

theorem ctxCases {B : Nat} {W : World} {a : Option Addr} {c : Option ByteArray} (h : CtxNew B W a c) : a = none ∨ ∃ q t, a = some ⟨q, 0, none⟩ ∧ B ≤ q ∧ W.heap[q]? = some (.cells #[.string t] 9 (0, 0)) := by
  cases c with
  | none => exact .inl h
  | some t =>
    obtain ⟨g, h1, h2, h3⟩ := h
    exact .inr ⟨g, t, h2, h1, h3⟩
/-- A list that is not empty lies in a block of its own. -/
theorem freeSome {B : Nat} {W : World} {a : Option Addr} {n c : Nat} {zs : List ByteArray} (h : FreeSt B W (.slice a n c) zs) (hn : 0 < n) : ∃ g cur, a = some ⟨g, 0, none⟩ ∧ B ≤ g ∧ W.heap[g]? = some (.cells cur 51 (0, 0)) ∧ ∀ i, i < n → i < cur.size := by
  have hl := FreeSt.len h
  rcases h with ⟨e1, _⟩ | ⟨g, cap, e1, hg, ho⟩
  · have := (Value.slice.inj e1).2.1
    omega
  · rw [e1] at ho
    obtain ⟨g2, c2, cur, e2, _, hc⟩ := own_some ho (by rw [hl]; exact hn)
    obtain rfl : g = g2 := by have := (Value.slice.inj e2).1; simpa using this
    refine ⟨g, cur, (Value.slice.inj e1).1, hg, hc, fun i hi => ?_⟩
    have h1 := ho.cellAt i (by rw [hl]; omega)
    rw [cell_of_row _ _ _ _ _ _ hc] at h1
    rw [List.getElem?_eq_getElem (by rw [List.length_map, hl]; exact hi)] at h1
    exact (Array.getElem?_eq_some_iff.1 h1).1

set_option maxHeartbeats 6400000 in
set_option maxRecDepth 100000 in
theorem walk_b (a : Option Addr) (n c : Nat) (zs : List ByteArray) (fa : Option Addr) (m fc : Nat) (fz : List ByteArray) (cx : ByteArray) (ba bv bs : Bool) (fm : Int) (tc : Bool) (w : World) (hi : StrsAt w w.heap.size (.slice a n c) zs) (hl : zs.length = n) (hn : n ≤ maxLen) (hm : m ≤ maxLen) (hz : ∀ i, i < n → (zs.getD i ByteArray.empty).size ≤ maxLen)
    (hfi : StrsAt w w.heap.size (.slice fa m fc) fz) (hfl : fz.length = m) (hfz : ∀ i, i < m → (fz.getD i ByteArray.empty).size ≤ maxLen) (hcx : cx.size ≤ maxLen) :
    Calls Tryf.prog 7 #[.slice a n c, .slice fa m fc, .string cx, .bool ba, .bool bv, .bool bs, .int .i64 fm, .bool tc] w fun e w' => e = .returned (.bool true) ∧ Below w.heap.size w w' := by
  have HI := Lib.hid hi
  have HL := Lib.hid hl
  have HFI := Lib.hid hfi
  have HFL := Lib.hid hfl
  have HN := Lib.hid (show n ≤ maxLen ∧ m ≤ maxLen ∧ cx.size ≤ maxLen from ⟨hn, hm, hcx⟩)
  have HZ := Lib.hid hz
  have HFZ := Lib.hid hfz
  clear hi hl hfi hfl hz hfz hn hm hcx
  go_enter Tryf.func7, Tryf.ntmps7
  go_wp2_with fail
  refine (bytes2 a n c zs fa m fc fz cx ba bv bs fm tc w HI.out HL.out HN.out.1 HN.out.2.1 HZ.out HFI.out HFL.out HFZ.out HN.out.2.2).mono ?_
  rintro e w' ⟨⟨b, rfl, hfit⟩, h⟩
  subst w'
  cases b with
  | false =>
    go_wp2
    go_ret
    exact ⟨rfl, Below.refl _ _⟩
  | true =>
  have HFT := Lib.hid (hfit rfl)
  clear hfit
  go_wp2_with fail
  refine (tooBig a n c zs fa m fc fz cx w HI.out HL.out HFI.out HFL.out HFT.out).mono ?_
  rintro e w' ⟨⟨b, rfl, hsm⟩, k, rfl⟩
  cases b with
  | true =>
    go_wp2
    go_ret
    exact ⟨rfl, drewN_below (Below.refl _ _) k⟩
  | false =>
  obtain ⟨hn, hm⟩ := hsm rfl
  clear hsm
  go_wp2_with fail
  refine (makeCtxs cx ba bv bs (w.drewN k)).mono ?_
  rintro e w1 ⟨ca, cv, rfl, h1, h2, h3⟩
  have HC1 := Lib.hid h1
  have HC2 := Lib.hid h2
  have HB1 := Lib.hid (show Below w.heap.size w w1 from (drewN_below (Below.refl _ w) k).trans h3)
  clear h1 h2 h3
  go_wp2_with fail
  refine (buildArray a n c zs fa m fc fz ca cv tc fm w w1 HI.out HL.out hn HFI.out HFL.out hm HB1.out).mono ?_
  rintro e W ⟨A, O, va, vc, vb, nb, rfl, hst, hnil, hsk⟩
  have ctxK : ∀ {a : Option Addr} {c : Option ByteArray}, CtxNew w.heap.size w1 a c → CtxNew w.heap.size W a c := fun {a c} h => by
    cases c with
    | none => exact h
    | some t =>
      obtain ⟨q, h1, h2, h3⟩ := h
      exact ⟨q, h1, h2, hsk _ _ _ h3⟩
  have HA1 := Lib.hid (ctxK (by exact HC1.out))
  have HA2 := Lib.hid (ctxK (by exact HC2.out))
  have HST := Lib.hid hst
  have HNL := Lib.hid hnil
  clear hst hnil hsk ctxK HC1 HC2 HB1
  clear w1
  go_wp2_with fail
  refine (zzCloneArr A n tc _ fz (if ba then some cx else none) (fun i => .iface 57 (.pointer (some ⟨vb i, 0, none⟩))) (fun _ => .slice none 0 0) (fun i => zs.getD i ByteArray.empty) nb (fun i => freeAt (modeAt fm i) (zs.getD i ByteArray.empty) fz) (if bv then some cx else none) W (arrAt HST.out hn hm HFL.out HA1.out HA2.out)).mono ?_
  rintro e W2 ⟨r, rfl, ⟨g, cap, us, bs', n', g1, g2, g3, g4, g5, g6, g7, g8⟩, hk2⟩
  obtain ⟨ev, hA, hown⟩ := HST.out.arr
  obtain ⟨ea, ec, rfl⟩ := own_slice hown
  have hbn : bs' 0 ≤ bs' n := chain2 g4 (Nat.zero_le _) (Nat.le_refl _)
  have hgW : W.heap.size ≤ g := by omega
  have hSRC : Src w W W2 W2 := Src.start HST.out.below hk2
  have HG := Lib.hid (show W.heap.size ≤ r ∧ r < g ∧ g < bs' 0 ∧ (∀ i, i < n → bs' i ≤ bs' (i + 1)) ∧ CseRow W2 g n us (fun _ => .slice none 0 0) ∧ (∀ i, i < n → VarIn (bs' i) (bs' (i + 1)) W2 (us i) (zs.getD i ByteArray.empty) (freeAt (modeAt fm i) (zs.getD i ByteArray.empty) fz) (if bv then some cx else none)) from ⟨g1, g2, g3, g4, g6, g7⟩)
  have HNB := Lib.hid g8
  have HR := Lib.hid g5
  have HAO := Lib.hid (show W.heap[A]? = _ ∧ W.ownsRow w.heap.size 56 2 (.slice ea n ec) n (elts n vb) from ⟨hA, hown⟩)
  have d0 : W2.cell? ⟨A, 0, none⟩ = some (.slice ea n ec) := (hSRC.cell hA 0 (nwA 0 (by decide))).trans rfl
  obtain ⟨⟨u11, hu11⟩, z11⟩ := hSRC.has hA 11 (by simp [arrCells])
  obtain ⟨tm, hmk⟩ := markEx cx
  have HMK := Lib.hid hmk
  have HS0 := Lib.hid hSRC
  have HK2 := Lib.hid hk2
  clear g1 g2 g3 g4 g5 g6 g7 g8 hA hown hmk hk2 hSRC
  go_wp2_with fail
  refine (HMK.out W2).mono ?_
  rintro e w' ⟨rfl, h⟩
  subst w'
  go_wp2_with fail
  change Code.wp Tryf.prog _ _ _ (W2.setCell ⟨A, 11, none⟩ (.bool (!tc)))
  have HS1 := Lib.hid (HS0.out.set (o := 11) HAO.out.1 (.inl ⟨rfl, rfl⟩) HST.out.ge (.bool (!tc)))
  generalize W2.setCell ⟨A, 11, none⟩ (.bool (!tc)) = W3 at HS1 ⊢
  clear HS0 d0 hu11 z11
  go_loopw [23] (fun i wr => ∃ q : Nat, q ≤ m ∧ i = .int .i64 q ∧ Hid (Src w W W2 wr)) (fun i _ => m - (intOf i).toNat)
  case atStart => exact ⟨0, Nat.zero_le _, rfl, HS1⟩
  case round =>
    obtain ⟨q, hq, rfl, HS⟩ := hrel
    have c4 : wr.cell? ⟨A, 4, none⟩ = some (.slice va m vc) := (HS.out.cell HAO.out.1 4 (nwA 4 (by decide))).trans rfl
    by_cases hlt : q < m
    · obtain ⟨ga, cur, rfl, hga, hgA, hgs⟩ := freeSome HST.out.free (by omega)
      obtain ⟨⟨u, fy⟩, fz0⟩ := HS.out.has hgA q (hgs q hlt)
      obtain ⟨b, off, rfl, hb, hcc⟩ := HFI.out.cell (k := q) (by rw [HFL.out]; exact hlt)
      have hc1 : wr.cell? ⟨b, off + q, none⟩ = some (.string (fz.getD q ByteArray.empty)) := (HS.out.below.cell (p := ⟨b, off + q, none⟩) hb).trans (hcc q (by rw [HFL.out]; exact hlt))
      obtain ⟨t0, ht0⟩ := markEx (fz.getD q ByteArray.empty)
      have HT0 := Lib.hid ht0
      have HN := Lib.hid (HS.out.set (o := q) hgA (.inr (.inr (.inl rfl))) hga (.string t0)).drew
      have i5 : (0 : Int) ≤ (q : Int) := Int.natCast_nonneg _
      have i6 : (q : Int) < (m : Int) := by omega
      clear hcc ht0 hgA hgs HS1
      generalize fz.getD q ByteArray.empty = t1 at hc1 HT0
      go_wp2_with fail
      go_still_tail 12, (by kernel_rfl)
      still_call (HT0.out _)
      repeat still_step
      refine wpStill_nil ?_
      change wpList _ _ _ _ _ wr.drew
      go_wp2
      go_roundw
      case rel => exact ⟨q + 1, by omega, by go_num, HN⟩
      case measure => simp [intOf]; omega
    · obtain rfl : m = q := by omega
      clear HS1
      go_upto_if 104 with (fail)
      clear c4
      go_cut [17] from 28 to 104 (fun s17 wd => Hid (s17 = .pointer ca ∧ Src w W W2 wd))
      case first =>
        rcases ctxCases HA1.out with rfl | ⟨qa, ta, rfl, hqa, hqA⟩
        · go_wp2_with fail
          go_meet
          exact Lib.hid ⟨rfl, HS.out⟩
        · obtain ⟨⟨u, fy⟩, fz0⟩ := HS.out.has hqA 0 (by simp)
          have HN := Lib.hid (HS.out.set (o := 0) hqA (.inr (.inr (.inr (.inl rfl)))) hqa (.string tm))
          clear hqA
          go_wp2_with fail
          go_meet
          exact Lib.hid ⟨rfl, HN.out⟩
      case rest =>
      obtain ⟨rfl, hs⟩ := hcut.out
      have HS2 := Lib.hid hs
      clear hs hcut HS
      go_upto_if 109 with (fail)
      go_cut [18] from 105 to 109 (fun s18 wd => Hid (s18 = .pointer cv ∧ Src w W W2 wd))
      case first =>
        rcases ctxCases HA2.out with rfl | ⟨qa, ta, rfl, hqa, hqA⟩
        · go_wp2_with fail
          go_meet
          exact Lib.hid ⟨rfl, HS2.out⟩
        · obtain ⟨⟨u, fy⟩, fz0⟩ := HS2.out.has hqA 0 (by simp)
          have HN := Lib.hid (HS2.out.set (o := 0) hqA (.inr (.inr (.inr (.inl rfl)))) hqa (.string tm))
          clear hqA
          go_wp2_with fail
          go_meet
          exact Lib.hid ⟨rfl, HN.out⟩
      case rest =>
      obtain ⟨rfl, hs⟩ := hcut.out
      have HS3 := Lib.hid hs
      clear hs hcut HS2
      clear wr
      go_wp2_with fail
      go_loopw [24] (fun i wr => ∃ q : Nat, q ≤ n ∧ i = .int .i64 q ∧ Hid (Src w W W2 wr)) (fun i _ => n - (intOf i).toNat)
      case atStart => exact ⟨0, Nat.zero_le _, rfl, HS3⟩
      case round =>
        obtain ⟨q, hq, rfl, HS⟩ := hrel
        clear HS3
        by_cases hlt : q < n
        · obtain ⟨gO, cO, curO, eO, _, hO⟩ := own_some HST.out.orig (by omega)
          obtain rfl : O = gO := by have := (Value.slice.inj eO).1; simpa using this
          have yO : wr.cell? ⟨O, q, none⟩ = some (.pointer (some ⟨vb q, 0, none⟩)) := by
            refine (HS.out.cell hO q (nwP q)).trans ((cell_of_row W O q _ _ _ hO).symm.trans ((HST.out.orig.cellAt q (by omega)).trans ?_))
            rw [List.getElem?_append_left (by rw [ptrs_len]; exact hlt), ptrs_get _ _ _ hlt]
          have hnd := HST.out.node q hlt
          obtain ⟨x, hx⟩ : ∃ x, x = nb q := ⟨_, rfl⟩
          rw [← hx] at hnd
          obtain ⟨⟨u0, y0⟩, z0⟩ := HS.out.has hnd.row 0 (by simp [varCells])
          obtain ⟨b, off, rfl, hb, hcc⟩ := HI.out.cell (k := q) (by rw [HL.out]; exact hlt)
          have hc1 : wr.cell? ⟨b, off + q, none⟩ = some (.string (zs.getD q ByteArray.empty)) := (HS.out.below.cell (p := ⟨b, off + q, none⟩) hb).trans (hcc q (by rw [HL.out]; exact hlt))
          obtain ⟨md, hmd⟩ : ∃ md, md = modeAt fm q := ⟨_, rfl⟩
          have HNM := Lib.hid (fun W => nodeMode fm q (by omega) W)
          rw [← hmd] at HNM
          have hfr := hnd.free
          rw [← hmd] at hfr
          obtain ⟨t, ht⟩ : ∃ t, zs.getD q ByteArray.empty = t := ⟨_, rfl⟩
          rw [ht] at hc1 hfr
          obtain ⟨t5, ht5⟩ := markEx t
          have HT5 := Lib.hid ht5
          have hge := hnd.ge
          have hrow := hnd.row
          have i5 : (0 : Int) ≤ (q : Int) := Int.natCast_nonneg _
          have i6 : (q : Int) < (n : Int) := by omega
          have HS4 := Lib.hid (HS.out.set (o := 0) hrow (.inr (.inl ⟨rfl, rfl⟩)) hge (.string t5))
          have HCC := Lib.hid (show ∀ W', Src w W W2 W' → W'.cell? ⟨b, off + q, none⟩ = some (.string t) from fun W' h => by rw [← ht]; exact (h.below.cell (p := ⟨b, off + q, none⟩) hb).trans (hcc q (by rw [HL.out]; exact hlt)))
          have HOC := Lib.hid (show ∀ W', Src w W W2 W' → W'.cell? ⟨vb q, 3, none⟩ = some (.slice x.va x.vn x.vc) from fun W' h => (h.cell hrow 3 (nwV 3 (by decide))).trans rfl)
          obtain ⟨L, cL, curL, eL, hLge, hL⟩ := own_some HAO.out.2 (by omega)
          obtain rfl : ea = some ⟨L, 0, none⟩ := (Value.slice.inj eL).1
          have hLs : q * 2 < curL.size := by
            have h1 := HAO.out.2.cellAt (q * 2) (by omega)
            rw [cell_of_row _ _ _ _ _ _ hL, (elts_get vb n q hlt).1] at h1
            exact (Array.getElem?_eq_some_iff.1 h1).1
          have HEL := Lib.hid (show ∀ W', Src w W W2 W' → W'.cell? ⟨A, 0, none⟩ = some (.slice (some ⟨L, 0, none⟩) n ec) ∧ (∃ u, W'.cell? ⟨L, q * 2, none⟩ = some u) ∧ W'.frozen? ⟨L, q * 2, none⟩ = false ∧ Src w W W2 (W'.setCell ⟨L, q * 2, none⟩ .nilIface) from fun W' h => ⟨(h.cell HAO.out.1 0 (nwA 0 (by decide))).trans rfl, (h.has hL _ hLs).1, (h.has hL _ hLs).2, h.set (o := q * 2) hL (.inr (.inr (.inr (.inr rfl)))) hLge .nilIface⟩)
          have HFR := Lib.hid hfr
          clear hcc hnd hrow ht ht5 hfr hmd hO eO hL eL hLs hx
          go_wp2_with fail
          refine (HT5.out wr).mono ?_
          rintro e w' ⟨rfl, h⟩
          subst w'
          go_wp2_with fail
          refine (HNM.out _).mono ?_
          rintro e w' ⟨rfl, h⟩
          subst w'
          clear yO y0 z0 hc1
          generalize wr.setCell ⟨vb q, 0, none⟩ (.string t5) = W6 at HS4 ⊢
          have y3 := HOC.out W6 HS4.out
          by_cases m2 : md = 2
          · have d1 : ((md : Int) == 2) = true := by rw [m2]; rfl
            have hfr := HFR.out
            rw [m2, freeAt_two] at hfr
            have hn1 : 1 = x.vn := FreeSt.len hfr
            rw [← hn1] at hfr y3
            obtain ⟨gx, cur, hxa, hgx, hgX, hgs⟩ := freeSome hfr (by omega)
            rw [hxa] at y3
            obtain ⟨⟨u, fy⟩, fz0⟩ := HS4.out.has hgX 0 (hgs 0 (by omega))
            have hc6 := HCC.out W6 HS4.out
            have HN := Lib.hid (HS4.out.set (o := 0) hgX (.inr (.inr (.inl rfl))) hgx (.string t5)).drew
            have HM2 := Lib.hid m2
            have HXA := Lib.hid hxa
            clear m2 hfr hgX hgs hxa hn1
            go_wp2_with fail
            go_still_tail 11, (by kernel_rfl)
            still_call (HT5.out _)
            repeat still_step
            refine wpStill_nil ?_
            change wpList _ _ _ _ _ W6.drew
            go_upto_region 27 with (fail)
            clear y3 fy fz0 hc6
            change Code.wp Tryf.prog _ _ _ ((W6.setCell ⟨gx, 0, none⟩ (.string t5)).drew)
            generalize (W6.setCell ⟨gx, 0, none⟩ (.string t5)).drew = W7 at HN ⊢
            obtain ⟨e1, ⟨u2, e2⟩, e3, e4⟩ := HEL.out W7 HN.out
            have HE4 := Lib.hid e4
            clear e4
            go_wp2
            go_roundw
            case rel => exact ⟨q + 1, by omega, by go_num, HE4⟩
            case measure => simp [intOf]; omega
          · have d1 : ((md : Int) == 2) = false := beq_eq_false_iff_ne.2 (by omega)
            obtain ⟨e1, ⟨u2, e2⟩, e3, e4⟩ := HEL.out W6 HS4.out
            have HE4 := Lib.hid e4
            have HM2 := Lib.hid m2
            clear e4 m2
            go_wp2
            go_roundw
            case rel => exact ⟨q + 1, by omega, by go_num, HE4⟩
            case measure => simp [intOf]; omega
        · obtain rfl : n = q := by omega
          obtain ⟨W8, rfl⟩ : ∃ W8, W8 = wr := ⟨wr, rfl⟩
          obtain ⟨⟨gf, capf, hvf, hgf1, hgf2, hof⟩, hcf⟩ := HNB.out
          obtain ⟨hr1, hr2, hr3, hr4, hr5, hr6⟩ := HG.out
          have hrlt := (Array.getElem?_eq_some_iff.1 HR.out).1
          have hglt : g < W2.heap.size := by
            obtain ⟨Cg, hg, _⟩ := hr5
            exact (Array.getElem?_eq_some_iff.1 hg).1
          have hR8 := (HS.out.clone r hr1 hrlt).trans HR.out
          have c11 : W8.cell? ⟨r, 11, none⟩ = some (.bool tc) := (cell_of_row _ _ 11 _ _ _ hR8).trans rfl
          have c0 : W8.cell? ⟨r, 0, none⟩ = some (.slice (some ⟨g, 0, none⟩) n cap) := (cell_of_row _ _ 0 _ _ _ hR8).trans rfl
          have c3 : W8.cell? ⟨r, 3, none⟩ = some (.pointer n'.ca) := (cell_of_row _ _ 3 _ _ _ hR8).trans rfl
          have c4 : W8.cell? ⟨r, 4, none⟩ = some (.slice (some ⟨gf, 0, none⟩) m capf) := by rw [← HFL.out, ← hvf]; exact (cell_of_row _ _ 4 _ _ _ hR8).trans rfl
          have qs : ∀ w (a : Option Addr) (n c : Nat), (binOp .eql 38 (.slice a n c) (.slice none 0 0)).run Tryf.prog w = .ok (.bool a.isNone) w := fun w a n c => Lib.run_eql_slice_nil w _ _ a n c 0 0 Tryf.underlying38
          have hof8 := ownsRow_same (w' := W8) hof (fun k e => by
            obtain rfl : gf = k := by simpa [Value.ownBlock] using e
            exact HS.out.clone gf (by omega) hgf2)
          have HID := Lib.hid (identsAre (some ⟨gf, 0, none⟩) fa m capf fc W8.heap.size w.heap.size fz W8 ((show FreeSt (bs' n) W8 (.slice (some ⟨gf, 0, none⟩) m capf) fz from by rw [← HFL.out]; exact .inr ⟨gf, capf, rfl, hgf1, hof8⟩).strs (by rw [HFL.out]; omega)) (HFI.out.below HS.out.below) HFL.out (by omega))
          have HCF := Lib.hid hcf
          clear hof hof8 hvf hR8 hcf hr5 hr6
          go_wp2_with fail
          refine HID.out.mono ?_
          rintro e w' ⟨rfl, k1, rfl⟩
          go_upto_if 186 with (fail)
          clear HID c11 c4
          go_cut [3] from 186 to 186 (fun s3 wd => Hid (s3 = .bool ba ∧ ∃ k, wd = W8.drewN k))
          case first =>
            cases ba with
            | false =>
              have hx : n'.ca = none := HCF.out
              rw [hx] at c3
              clear hx
              go_wp2_with fail
              go_meet
              exact Lib.hid ⟨rfl, _, rfl⟩
            | true =>
              obtain ⟨qc, hq1, hq2, hx, hq3⟩ : ∃ q, bs' n ≤ q ∧ q < W2.heap.size ∧ n'.ca = some ⟨q, 0, none⟩ ∧ W2.heap[q]? = some (.cells #[.string cx] 9 (0, 0)) := HCF.out
              have y2 : W8.cell? ⟨qc, 0, none⟩ = some (.string cx) := (cell_of_row _ _ 0 _ _ _ ((HS.out.clone qc (by omega) hq2).trans hq3)).trans rfl
              rw [hx] at c3
              clear hx hq3
              go_wp2_with fail
              go_meet
              exact Lib.hid ⟨rfl, _, rfl⟩
          case rest =>
          obtain ⟨rfl, k2, hw⟩ := hcut.out
          clear hcut c3
          have c0' : wc.cell? ⟨r, 0, none⟩ = some (.slice (some ⟨g, 0, none⟩) n cap) := by rw [hw]; exact c0
          have HW0 := Lib.hid hw
          clear hw c0
          go_wp2_with fail
          go_loopw [26] (fun i wr => ∃ q k : Nat, q ≤ n ∧ i = .int .i64 q ∧ Hid (wr = W8.drewN k)) (fun i _ => n - (intOf i).toNat)
          case atStart => exact ⟨0, k2, Nat.zero_le _, rfl, HW0⟩
          case round =>
            obtain ⟨q, k, hq, rfl, HW⟩ := hrel
            clear c0' HW0
            by_cases hlt : q < n
            · obtain ⟨b, x, hb1, hb2, hus, hrow, hnb⟩ := HG.out.2.2.2.2.2 q hlt
              have hm1 := chain2 hr4 (Nat.zero_le q) (by omega)
              have hm2 := chain2 hr4 (show q + 1 ≤ n by omega) (Nat.le_refl _)
              have htop : bs' n ≤ W2.heap.size := by omega
              have hC : ∀ j, bs' q ≤ j → j < bs' (q + 1) → wr.heap[j]? = W2.heap[j]? := fun j h1 h2 => by rw [HW.out]; exact HS.out.clone j (by omega) (by omega)
              have hrow2 := (hC b hb1 hb2).trans hrow
              obtain ⟨gv, capv, hv, hgv1, hgv2, hov⟩ := hnb.fv
              have hov2 := ownsRow_same (w' := wr) hov (fun k e => by
                obtain rfl : gv = k := by simpa [Value.ownBlock] using e
                exact hC gv hgv1 hgv2)
              have hcg : wr.cell? ⟨g, q * 2, none⟩ = some (.iface 57 (.pointer (some ⟨b, 0, none⟩))) := by
                have h1 := (HG.out.2.2.2.2.1.cells hlt).1
                rw [hus] at h1
                rw [World.cell?_of_block (a := ⟨g, q * 2, none⟩) (show wr.heap[g]? = W2.heap[g]? from by rw [HW.out]; exact HS.out.clone g (by omega) hglt)]
                exact h1
              have c0 : wr.cell? ⟨r, 0, none⟩ = some (.slice (some ⟨g, 0, none⟩) n cap) := by rw [HW.out]; exact (cell_of_row _ _ 0 _ _ _ ((HS.out.clone r hr1 hrlt).trans HR.out)).trans rfl
              obtain ⟨ba', off, rfl, hba, hcc⟩ := HI.out.cell (k := q) (by rw [HL.out]; exact hlt)
              have hbw : Below w.heap.size w wr := by rw [HW.out]; exact drewN_below HS.out.below k
              have hc1 : wr.cell? ⟨ba', off + q, none⟩ = some (.string (zs.getD q ByteArray.empty)) := (hbw.cell (p := ⟨ba', off + q, none⟩) hba).trans (hcc q (by rw [HL.out]; exact hlt))
              obtain ⟨md, hmd⟩ : ∃ md, md = modeAt fm q := ⟨_, rfl⟩
              have h4 : md < 4 := by rw [hmd]; exact modeAt_lt fm q
              have HNM := Lib.hid (fun W => nodeMode fm q (by omega) W)
              rw [← hmd] at HNM hov2 hv
              obtain ⟨t, ht⟩ : ∃ t, zs.getD q ByteArray.empty = t := ⟨_, rfl⟩
              rw [ht] at hc1 hov2 hrow2 hv
              have hfle : (freeAt md t fz).length ≤ 1048576 := freeAt_len md t fz (by rw [HFL.out]; omega)
              have y0 : wr.cell? ⟨b, 0, none⟩ = some (.string t) := (cell_of_row _ _ 0 _ _ _ hrow2).trans rfl
              have y2 : wr.cell? ⟨b, 2, none⟩ = some (.pointer x.ca) := (cell_of_row _ _ 2 _ _ _ hrow2).trans rfl
              have y3 : wr.cell? ⟨b, 3, none⟩ = some (.slice (some ⟨gv, 0, none⟩) (freeAt md t fz).length capv) := (cell_of_row _ _ 3 _ _ _ hrow2).trans (congrArg some hv)
              have i5 : (0 : Int) ≤ (q : Int) := Int.natCast_nonneg _
              have i6 : (q : Int) < (n : Int) := by omega
              have HE := Lib.hid (zzElemVar r g q n cap b none wr c0 hlt hcg)
              have HF := Lib.hid (show ∀ i, Calls Tryf.prog 17 #[.slice (some ⟨gv, 0, none⟩) (freeAt md t fz).length capv, .int .i64 md, .string t, .slice fa m fc] (wr.drewN i) fun e w' => e = .returned (.bool true) ∧ ∃ m, w' = (wr.drewN i).drewN m from fun i => freeIs (some ⟨gv, 0, none⟩) (freeAt md t fz).length capv _ md h4 t fa m fc _ fz (wr.drewN i) (((show FreeSt (bs' q) wr (.slice (some ⟨gv, 0, none⟩) (freeAt md t fz).length capv) (freeAt md t fz) from .inr ⟨gv, capv, rfl, hgv1, hov2⟩).strs hfle).drewN i) rfl ((HFI.out.below hbw).drewN i) HFL.out (by omega))
              have HCX := Lib.hid hnb.ctx
              have HCC := Lib.hid hC
              clear hrow hnb hus hC hov hov2 hcg hcc hmd ht hv hrow2 hbw c0 hfle
              generalize (freeAt md t fz).length = ln at y3 HF
              go_wp2_with fail
              refine HE.out.mono ?_
              rintro e w' ⟨rfl, h⟩
              subst w'
              go_wp2_with fail
              go_quiet (fail)
              go_upto_region 43 with (fail)
              have y2' : (wr.drewN nq).cell? ⟨b, 2, none⟩ = some (.pointer x.ca) := y2
              have y3' : (wr.drewN nq).cell? ⟨b, 3, none⟩ = some (.slice (some ⟨gv, 0, none⟩) ln capv) := y3
              have hc1' : (wr.drewN nq).cell? ⟨ba', off + q, none⟩ = some (.string t) := hc1
              have HF2 := Lib.hid (show ∀ i, Calls Tryf.prog 17 #[.slice (some ⟨gv, 0, none⟩) ln capv, .int .i64 md, .string t, .slice fa m fc] ((wr.drewN nq).drewN i) fun e w' => e = .returned (.bool true) ∧ ∃ m, w' = ((wr.drewN nq).drewN i).drewN m from fun i => by
                have h := HF.out (nq + i)
                rwa [← World.drewN_drewN] at h)
              have HCQ := Lib.hid (show ∀ j, bs' q ≤ j → j < bs' (q + 1) → (wr.drewN nq).heap[j]? = W2.heap[j]? from HCC.out)
              have HW2 := Lib.hid (show wr.drewN nq = W8.drewN (k + nq) from by rw [HW.out, World.drewN_drewN])
              clear y0 y2 y3 hc1 HF HE
              generalize wr.drewN nq = W9 at y2' y3' hc1' HF2 HCQ HW2 ⊢
              go_quiet (first | (refine Calls.quiet_of_same ((HNM.out _).mono fun _ _ ⟨h1, h2⟩ => ⟨h1, h2.symm⟩)) | (exact Calls.quiet_of (HF2.out _)))
              go_upto_if 263 with (fail)
              have y4 : (W9.drewN nq).cell? ⟨b, 2, none⟩ = some (.pointer x.ca) := y2'
              clear y2' y3' hc1' HF2
              cases bv with
              | false =>
                have hx : x.ca = none := HCX.out
                rw [hx] at y4
                clear hx
                go_wp2
                go_roundw
                case rel => exact ⟨q + 1, _, by omega, by go_num, Lib.hid (by rw [HW2.out, World.drewN_drewN])⟩
                case measure => simp [intOf]; omega
              | true =>
                obtain ⟨qx, hq1, hq2, hx, hq3⟩ : ∃ k, bs' q ≤ k ∧ k < bs' (q + 1) ∧ x.ca = some ⟨k, 0, none⟩ ∧ W2.heap[k]? = some (.cells #[.string cx] 9 (0, 0)) := HCX.out
                have y5 : (W9.drewN nq).cell? ⟨qx, 0, none⟩ = some (.string cx) := (cell_of_row _ _ 0 _ _ _ ((HCQ.out qx hq1 hq2).trans hq3)).trans rfl
                rw [hx] at y4
                clear hx hq3
                go_wp2
                go_roundw
                case rel => exact ⟨q + 1, _, by omega, by go_num, Lib.hid (by rw [HW2.out, World.drewN_drewN])⟩
                case measure => simp [intOf]; omega
            · obtain rfl : n = q := by omega
              go_wp2
              go_ret
              exact ⟨rfl, by rw [HW.out]; exact drewN_below HS.out.below k⟩

end Go.Proofs.YtegabjiaekfmbaaFmt.fnCloneArraySourceWritesDoNotReachClone
