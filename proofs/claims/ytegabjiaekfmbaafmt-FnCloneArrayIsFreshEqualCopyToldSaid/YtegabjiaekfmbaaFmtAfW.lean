/-
  The walk of FnCloneArrayIsFreshEqualCopy.
-/
import Derived.Test.YtegabjiaekfmbaaFmtArM
import Derived.StillTailTactics
namespace Go.Proofs.YtegabjiaekfmbaaFmt.fnCloneArrayIsFreshEqualCopy
open Go Go.RowKit Arr

theorem neCtx {B : Nat} {W wc : World} {q : Nat} {cv : Option Addr} {c : Option ByteArray} {C : Array Value} (h : CtxNew B W cv c) (hq : wc.heap[q]? = some (.cells C 9 (0, 0))) (hl : W.heap.size ≤ q) (hk : ∀ k, k < W.heap.size → wc.heap[k]? = W.heap[k]?) : (binOp .eql 26 (.pointer (some ⟨q, 0, none⟩)) (.pointer cv)).run Tryf.prog wc = .ok (.bool false) wc := by
  cases c with
  | none =>
    obtain rfl : cv = none := h
    exact run_eql_pointer_nil wc 26 (some ⟨q, 0, none⟩) (by kernel_rfl)
  | some t =>
    obtain ⟨g, _, rfl, hg⟩ := h
    have hlt := (Array.getElem?_eq_some_iff.1 hg).1
    exact eq_heads (P := Tryf.prog) Tryf.underlying26 (te := 9) (n := 1) (by kernel_rfl) (by decide) (by omega) hq ((hk g hlt).trans hg) 0
theorem ctxBelow {B : Nat} {W W' : World} {a : Option Addr} {c : Option ByteArray} (h : CtxNew B W a c) (hb : Below W.heap.size W W') : CtxNew B W' a c := by
  cases c with
  | none => exact h
  | some t =>
    obtain ⟨g, h1, h2, h3⟩ := h
    exact ⟨g, h1, h2, (hb.block g (Array.getElem?_eq_some_iff.1 h3).1).trans h3⟩

set_option maxHeartbeats 6400000 in
set_option maxRecDepth 100000 in
theorem walk_b (a : Option Addr) (n c : Nat) (zs : List ByteArray) (fa : Option Addr) (m fc : Nat) (fz : List ByteArray) (cx : ByteArray) (ba bv bs : Bool) (fm : Int) (tc : Bool) (w : World) (hi : StrsAt w w.heap.size (.slice a n c) zs) (hl : zs.length = n) (hn : n ≤ maxLen) (hm : m ≤ maxLen) (hz : ∀ i, i < n → (zs.getD i ByteArray.empty).size ≤ maxLen)
    (hfi : StrsAt w w.heap.size (.slice fa m fc) fz) (hfl : fz.length = m) (hfz : ∀ i, i < m → (fz.getD i ByteArray.empty).size ≤ maxLen) (hcx : cx.size ≤ maxLen) :
    Calls Tryf.prog 3 #[.slice a n c, .slice fa m fc, .string cx, .bool ba, .bool bv, .bool bs, .int .i64 fm, .bool tc] w fun e w' => e = .returned (.bool true) ∧ Below w.heap.size w w' := by
  have HI := Lib.hid hi
  have HL := Lib.hid hl
  have HFI := Lib.hid hfi
  have HFL := Lib.hid hfl
  have HN := Lib.hid (show n ≤ maxLen ∧ m ≤ maxLen ∧ cx.size ≤ maxLen from ⟨hn, hm, hcx⟩)
  have HZ := Lib.hid hz
  have HFZ := Lib.hid hfz
  clear hi hl hfi hfl hz hfz hn hm hcx
  go_enter Tryf.func3, Tryf.ntmps3
  go_wp2_with fail
  refine (bytes1 a n c zs fa m fc fz cx ba bv bs fm tc w HI.out HL.out HN.out.1 HN.out.2.1 HZ.out HFI.out HFL.out HFZ.out HN.out.2.2).mono ?_
  rintro e w' ⟨⟨b, rfl, hfit⟩, h⟩
  subst w'
  cases b with
  | false =>
    go_wp2
    go_ret
    exact ⟨rfl, Below.refl _ _⟩
  | true =>
  have HFT := Lib.hid (hfit rfl)
  clear hfit
  go_wp2_with fail
  refine (tooBig a n c zs fa m fc fz cx w HI.out HL.out HFI.out HFL.out HFT.out).mono ?_
  rintro e w' ⟨⟨b, rfl, hsm⟩, k, rfl⟩
  cases b with
  | true =>
    go_wp2
    go_ret
    exact ⟨rfl, drewN_below (Below.refl _ _) k⟩
  | false =>
  obtain ⟨hn, hm⟩ := hsm rfl
  clear hsm
  go_wp2_with fail
  refine (makeCtxs cx ba bv bs (w.drewN k)).mono ?_
  rintro e w1 ⟨ca, cv, rfl, h1, h2, h3⟩
  have HC1 := Lib.hid h1
  have HC2 := Lib.hid h2
  have HB1 := Lib.hid (show Below w.heap.size w w1 from (drewN_below (Below.refl _ w) k).trans h3)
  clear h1 h2 h3
  go_wp2_with fail
  refine (buildArray a n c zs fa m fc fz ca cv tc fm w w1 HI.out HL.out hn HFI.out HFL.out hm HB1.out).mono ?_
  rintro e W ⟨A, O, va, vc, vb, nb, rfl, hst, hnil, hsk⟩
  have ctxK : ∀ {a : Option Addr} {c : Option ByteArray}, CtxNew w.heap.size w1 a c → CtxNew w.heap.size W a c := fun {a c} h => by
    cases c with
    | none => exact h
    | some t =>
      obtain ⟨q, h1, h2, h3⟩ := h
      exact ⟨q, h1, h2, hsk _ _ _ h3⟩
  have HA1 := Lib.hid (ctxK (by exact HC1.out))
  have HA2 := Lib.hid (ctxK (by exact HC2.out))
  have HST := Lib.hid hst
  have HNL := Lib.hid hnil
  clear hst hnil hsk ctxK HC1 HC2 HB1
  clear w1
  go_wp2_with fail
  refine (zzCloneArr A n tc _ fz (if ba then some cx else none) (fun i => .iface 57 (.pointer (some ⟨vb i, 0, none⟩))) (fun _ => .slice none 0 0) (fun i => zs.getD i ByteArray.empty) nb (fun i => freeAt (modeAt fm i) (zs.getD i ByteArray.empty) fz) (if bv then some cx else none) W (arrAt HST.out hn hm HFL.out HA1.out HA2.out)).mono ?_
  rintro e W2 ⟨r, rfl, ⟨g, cap, us, bs', n', g1, g2, g3, g4, g5, g6, g7, g8⟩, hk2⟩
  obtain ⟨ev, hA, hown⟩ := HST.out.arr
  obtain ⟨ea, ec, rfl⟩ := own_slice hown
  have hlA : A < W.heap.size := (Array.getElem?_eq_some_iff.1 hA).1
  have hA2 : W2.heap[A]? = some (.cells (arrCells (.slice ea n ec) { nz with ca := ca, va := va, vn := m, vc := vc } tc) 47 (0, 0)) := (hk2.block A hlA).trans hA
  obtain ⟨⟨gf, capf, hvf, hgf1, hgf2, hof⟩, hcf⟩ := g8
  have hbn : bs' 0 ≤ bs' n := chain2 g4 (Nat.zero_le _) (Nat.le_refl _)
  have hgW : W.heap.size ≤ g := by omega
  have hbW : W.heap.size ≤ bs' n := by omega
  have c11 : W2.cell? ⟨r, 11, none⟩ = some (.bool tc) := (cell_of_row _ _ 11 _ _ _ g5).trans rfl
  have c0 : W2.cell? ⟨r, 0, none⟩ = some (.slice (some ⟨g, 0, none⟩) n cap) := (cell_of_row _ _ 0 _ _ _ g5).trans rfl
  have c3 : W2.cell? ⟨r, 3, none⟩ = some (.pointer n'.ca) := (cell_of_row _ _ 3 _ _ _ g5).trans rfl
  have c4 : W2.cell? ⟨r, 4, none⟩ = some (.slice (some ⟨gf, 0, none⟩) m capf) := by rw [← HFL.out, ← hvf]; exact (cell_of_row _ _ 4 _ _ _ g5).trans rfl
  have qr : (binOp .eql 29 (.pointer (some ⟨r, 0, none⟩)) (.pointer (some ⟨A, 0, none⟩))).run Tryf.prog W2 = .ok (.bool false) W2 := eq_heads (P := Tryf.prog) Tryf.underlying29 (te := 47) (n := 12) (by kernel_rfl) (by decide) (by omega) g5 hA2 0
  have qs : ∀ w (a : Option Addr) (n c : Nat), (binOp .eql 38 (.slice a n c) (.slice none 0 0)).run Tryf.prog w = .ok (.bool a.isNone) w := fun w a n c => Lib.run_eql_slice_nil w _ _ a n c 0 0 Tryf.underlying38
  obtain ⟨tm, hmk⟩ := markEx cx
  have HMK := Lib.hid hmk
  have hb2 : Below w.heap.size w W2 := HST.out.below.trans (hk2.mono HST.out.below.size)
  have HID := Lib.hid (identsAre (some ⟨gf, 0, none⟩) fa m capf fc W2.heap.size w.heap.size fz W2 ((show FreeSt (bs' n) W2 (.slice (some ⟨gf, 0, none⟩) m capf) fz from by rw [← HFL.out]; exact .inr ⟨gf, capf, rfl, hgf1, hof⟩).strs (by rw [HFL.out]; omega)) (HFI.out.below hb2) HFL.out (by omega))
  have HG := Lib.hid (show g < bs' 0 ∧ (∀ i, i < n → bs' i ≤ bs' (i + 1)) ∧ CseRow W2 g n us (fun _ => .slice none 0 0) ∧ (∀ i, i < n → VarIn (bs' i) (bs' (i + 1)) W2 (us i) (zs.getD i ByteArray.empty) (freeAt (modeAt fm i) (zs.getD i ByteArray.empty) fz) (if bv then some cx else none)) from ⟨g3, g4, g6, g7⟩)
  have HF := Lib.hid hof
  have HCF := Lib.hid hcf
  have HR := Lib.hid g5
  have HAO := Lib.hid (show W.heap[A]? = _ ∧ W.ownsRow w.heap.size 56 2 (.slice ea n ec) n (elts n vb) from ⟨hA, hown⟩)
  have HK2 := Lib.hid hk2
  have HB2 := Lib.hid hb2
  clear g3 g4 g5 g6 g7 hA hA2 hown hvf hof hcf hmk hk2 hb2
  go_wp2_with fail
  refine (HMK.out W2).mono ?_
  rintro e w' ⟨rfl, h⟩
  subst w'
  clear qr c11
  go_wp2_with fail
  refine HID.out.mono ?_
  rintro e w' ⟨rfl, k1, rfl⟩
  clear HID
  -- the array's own list is marked
  go_upto_if 95 with (fail)
  go_cut [] from 26 to 95 (fun wd => Hid ((∀ k, k < bs' n → wd.heap[k]? = W2.heap[k]?) ∧ (∀ (k : Nat) (c : Array Value) (fr : Nat × Nat), W2.heap[k]? = some (.cells c 9 fr) → wd.heap[k]? = W2.heap[k]?) ∧ Below W.heap.size W wd))
  case first =>
    by_cases h0 : 0 < m
    · obtain ⟨ga, gca, curA, hva, hga, hgA⟩ : ∃ ga gca curA, Value.slice va m vc = .slice (some ⟨ga, 0, none⟩) m gca ∧ ga < W.heap.size ∧ W.heap[ga]? = some (.cells curA 51 (0, 0)) := by
        rcases HST.out.free with ⟨e1, _⟩ | ⟨g', cap', e1, _, ho⟩
        · have := (Value.slice.inj e1).2.1
          omega
        · have e2 := Value.slice.inj e1
          obtain ⟨g2, cc, cur, e3, _, hc⟩ := own_some ho (by rw [← e2.2.1]; exact h0)
          have e4 : g' = g2 := by have := (Value.slice.inj (e1.symm.trans e3)).1; simpa using this
          subst e4
          exact ⟨g', cap', cur, by rw [e1, ← e2.2.1], (Array.getElem?_eq_some_iff.1 hc).1, hc⟩
      obtain ⟨rfl, rfl⟩ : va = some ⟨ga, 0, none⟩ ∧ vc = gca := ⟨(Value.slice.inj hva).1, (Value.slice.inj hva).2.2⟩
      have d4 : (W2.drewN k1).cell? ⟨A, 4, none⟩ = some (.slice (some ⟨ga, 0, none⟩) m vc) := (cell_of_row _ _ 4 _ _ _ ((HK2.out.block A hlA).trans HAO.out.1)).trans rfl
      have e4 : (W2.drewN k1).cell? ⟨r, 4, none⟩ = some (.slice (some ⟨gf, 0, none⟩) m capf) := c4
      have i0 : (0 : Int) < (m : Int) := by omega
      obtain ⟨gf2, cc2, cur2, e5, _, hgf⟩ := own_some HF.out (by rw [HFL.out]; exact h0)
      obtain rfl : gf = gf2 := by have := (Value.slice.inj e5).1; simpa using this
      have qi : ∀ j, (binOp .eql 50 (.pointer (some ⟨gf, 0, none⟩)) (.pointer (some ⟨ga, 0, none⟩))).run Tryf.prog ((W2.drewN k1).drewN j) = .ok (.bool false) ((W2.drewN k1).drewN j) := fun j => eq_heads (P := Tryf.prog) Tryf.underlying50 (te := 51) (n := 1) (W := W2.drewN k1) (by kernel_rfl) (by decide) (by omega) (show W2.heap[gf]? = _ from hgf) (show W2.heap[ga]? = _ from (HK2.out.block ga hga).trans hgA) j
      obtain ⟨b, off, rfl, hb, hcc⟩ := HFI.out.cell (k := 0) (by rw [HFL.out]; exact h0)
      have hc1 : (W2.drewN k1).cell? ⟨b, off, none⟩ = some (.string (fz.getD 0 ByteArray.empty)) := (HB2.out.cell (p := ⟨b, off, none⟩) hb).trans (hcc 0 (by rw [HFL.out]; exact h0))
      obtain ⟨t0, ht0⟩ := markEx (fz.getD 0 ByteArray.empty)
      have HT0 := Lib.hid ht0
      have fy : (W2.drewN k1).cell? ⟨gf, 0, none⟩ = cur2[0]? := cell_of_row _ _ 0 _ _ _ (show (W2.drewN k1).heap[gf]? = _ from hgf)
      have fu : cur2[0]? = some (.string (fz.getD 0 ByteArray.empty)) := (cell_of_row W2 gf 0 _ _ _ hgf).symm.trans ((HF.out.cellAt 0 (by rw [HFL.out]; omega)).trans (by
        have := HFL.out
        rw [List.getElem?_map]
        simp [List.getD, List.getElem?_eq_getElem (show 0 < fz.length by omega)]))
      rw [fu] at fy
      have fz0 : (W2.drewN k1).frozen? ⟨gf, 0, none⟩ = false := frozen_of (show (W2.drewN k1).heap[gf]? = _ from hgf) 0
      have HGF := Lib.hid hgf
      generalize hWx : W2.drewN k1 = Wx at d4 e4 qi hc1 fy fz0 ⊢
      have HWX := Lib.hid hWx
      clear hWx hgA hva e5 hcc ht0 hgf fu
      generalize fz.getD 0 ByteArray.empty = t1 at hc1 HT0 fy
      go_wp2_with fail
      go_quiet (fail)
      go_upto_region 16 with (fail)
      have HWX2 := Lib.hid (show Wx.drewN nq = (W2.drewN k1).drewN nq by rw [HWX.out])
      have d4' : (Wx.drewN nq).cell? ⟨r, 4, none⟩ = some (.slice (some ⟨gf, 0, none⟩) m capf) := e4
      have hc1' : (Wx.drewN nq).cell? ⟨b, off, none⟩ = some (.string t1) := hc1
      have fy' : (Wx.drewN nq).cell? ⟨gf, 0, none⟩ = some (.string t1) := fy
      have fz0' : (Wx.drewN nq).frozen? ⟨gf, 0, none⟩ = false := fz0
      clear d4 e4 qi hc1 fy fz0
      generalize Wx.drewN nq = Wy at d4' hc1' fy' fz0' HWX2 ⊢
      go_still_tail 10, (by kernel_rfl)
      still_call (HT0.out _)
      repeat still_step
      refine wpStill_nil ?_
      change wpList _ _ _ _ _ Wy.drew
      go_wp2_with fail
      go_meet
      refine Lib.hid ⟨fun k hk => ?_, fun k c2 fr hk => ?_, ?_⟩
      · exact (Below.heap_setCell Wy _ _ k (by show k ≠ gf; omega)).trans (by have h := HWX2.out; subst h; rfl)
      · refine (Below.heap_setCell Wy _ _ k (fun e => ?_)).trans (by have h := HWX2.out; subst h; rfl)
        have e : k = gf := e
        rw [e, HGF.out] at hk
        cases hk
      · exact drew_below ((show Below W.heap.size W Wy from by rw [HWX2.out]; exact drewN_below (drewN_below HK2.out k1) nq).setCell (by show W.heap.size ≤ gf; omega) _)
    · have i0 : ¬ (0 : Int) < (m : Int) := by omega
      have i1 : decide ((0 : Int) < (m : Int)) = false := decide_eq_false i0
      go_wp2_with fail
      go_meet
      exact Lib.hid ⟨fun k _ => rfl, fun k _ _ _ => rfl, drewN_below HK2.out k1⟩
  case rest =>
  have HJ := Lib.hid hcut.out
  clear hcut
  go_upto_if 119 with (fail)
  go_cut [3] from 119 to 119 (fun s3 wd => Hid (s3 = .bool ba ∧ (∀ k, k < bs' n → wd.heap[k]? = W2.heap[k]?) ∧ Below W.heap.size W wd))
  case first =>
    cases ba with
    | false =>
      have hx : n'.ca = none := HCF.out
      have y1 : wc.cell? ⟨r, 3, none⟩ = some (.pointer none) := by rw [← hx]; exact (cell_of_row _ _ 3 _ _ _ ((HJ.out.1 r (by have := HG.out.1; omega)).trans HR.out)).trans rfl
      clear hx
      go_wp2_with fail
      go_meet
      exact Lib.hid ⟨rfl, HJ.out.1, HJ.out.2.2⟩
    | true =>
      obtain ⟨qc, hq1, hq2, hx, hq3⟩ : ∃ q, bs' n ≤ q ∧ q < W2.heap.size ∧ n'.ca = some ⟨q, 0, none⟩ ∧ W2.heap[q]? = some (.cells #[.string cx] 9 (0, 0)) := HCF.out
      have hq4 := (HJ.out.2.1 qc _ _ hq3).trans hq3
      have y1 : wc.cell? ⟨r, 3, none⟩ = some (.pointer (some ⟨qc, 0, none⟩)) := by rw [← hx]; exact (cell_of_row _ _ 3 _ _ _ ((HJ.out.1 r (by have := HG.out.1; omega)).trans HR.out)).trans rfl
      have y2 : wc.cell? ⟨qc, 0, none⟩ = some (.string cx) := (cell_of_row _ _ 0 _ _ _ hq4).trans rfl
      have y3 : wc.frozen? ⟨qc, 0, none⟩ = false := frozen_of hq4 0
      have q1 := neCtx HA1.out hq4 (by omega) (fun k hk => HJ.out.2.2.block k hk)
      have q2 := neCtx HA2.out hq4 (by omega) (fun k hk => HJ.out.2.2.block k hk)
      clear hx hq3 hq4
      go_wp2_with fail
      go_meet
      exact Lib.hid ⟨rfl, fun k hk => (Below.heap_setCell wc _ _ k (by show k ≠ qc; omega)).trans (HJ.out.1 k hk), HJ.out.2.2.setCell (by show W.heap.size ≤ qc; omega) _⟩
  case rest =>
  obtain ⟨rfl, hj⟩ := hcut.out
  have HJ2 := Lib.hid hj
  clear hj hcut HJ c0 c3 c4
  obtain ⟨W5, rfl⟩ : ∃ W5, W5 = wc := ⟨wc, rfl⟩
  have c0 : W5.cell? ⟨r, 0, none⟩ = some (.slice (some ⟨g, 0, none⟩) n cap) := (cell_of_row _ _ 0 _ _ _ ((HJ2.out.1 r (by have := HG.out.1; omega)).trans HR.out)).trans rfl
  go_upto_region 25 with (fail)
  go_cut [191] from 176 to 191 (fun s191 wd => Hid (s191 = .bool false ∧ ∃ k, wd = W5.drewN k))
  case first =>
    by_cases h0 : 0 < n
    · obtain ⟨L, cL, curL, e, _, hL⟩ := own_some HAO.out.2 h0
      obtain rfl : ea = some ⟨L, 0, none⟩ := (Value.slice.inj e).1
      have hlL := (Array.getElem?_eq_some_iff.1 hL).1
      have d0 : W5.cell? ⟨A, 0, none⟩ = some (.slice (some ⟨L, 0, none⟩) n ec) := (cell_of_row _ _ 0 _ _ _ ((HJ2.out.2.block A hlA).trans HAO.out.1)).trans rfl
      obtain ⟨Cg, hg, _⟩ := HG.out.2.2.1
      have qc : ∀ j, (binOp .eql 52 (.pointer (some ⟨g, 0, none⟩)) (.pointer (some ⟨L, 0, none⟩))).run Tryf.prog (W5.drewN j) = .ok (.bool false) (W5.drewN j) := fun j => eq_heads (P := Tryf.prog) Tryf.underlying52 (te := 56) (n := 2) (by kernel_rfl) (by decide) (by omega) ((HJ2.out.1 g (by have := HG.out.1; omega)).trans hg) ((HJ2.out.2.block L hlL).trans hL) j
      have i0 : (0 : Int) < (n : Int) := by omega
      have i1 : decide ((0 : Int) < (n : Int)) = true := decide_eq_true i0
      clear hL hg e
      go_quiet (fail)
      go_wp2
      go_meet
      exact Lib.hid ⟨rfl, _, rfl⟩
    · have i0 : ¬ (0 : Int) < (n : Int) := by omega
      have i1 : decide ((0 : Int) < (n : Int)) = false := decide_eq_false i0
      go_quiet (fail)
      go_wp2
      go_meet
      exact Lib.hid ⟨rfl, _, rfl⟩
  case rest =>
  obtain ⟨rfl, k5, hw5⟩ := hcut.out
  have HJ3 : Hid ((∀ k, k < bs' n → wc.heap[k]? = W2.heap[k]?) ∧ Below W.heap.size W wc) := Lib.hid (by rw [hw5]; exact ⟨HJ2.out.1, drewN_below HJ2.out.2 k5⟩)
  clear hw5 hcut HJ2 c0
  clear W5
  go_wp2_with fail
  as_aux_lemma =>
    go_loopw [23] (fun i wr => ∃ q : Nat, q ≤ n ∧ i = .int .i64 q ∧ Hid ((∀ k, (k < bs' 0 ∨ (bs' q ≤ k ∧ k < bs' n)) → wr.heap[k]? = W2.heap[k]?) ∧ Below W.heap.size W wr)) (fun i _ => n - (intOf i).toNat)
    case atStart => exact ⟨0, Nat.zero_le _, rfl, Lib.hid ⟨fun k hk => HJ3.out.1 k (by omega), HJ3.out.2⟩⟩
    case round =>
      obtain ⟨q, hq, rfl, HS⟩ := hrel
      clear HJ3 HF HCF
      by_cases hlt : q < n
      · obtain ⟨b, x, hb1, hb2, hus, hrow, hnb⟩ := HG.out.2.2.2 q hlt
        have hm1 := chain2 HG.out.2.1 (Nat.zero_le q) (by omega)
        have hm2 := chain2 HG.out.2.1 (show q + 1 ≤ n by omega) (Nat.le_refl _)
        have hgb := HG.out.1
        have hK : ∀ k, bs' q ≤ k → k < bs' (q + 1) → wr.heap[k]? = W2.heap[k]? := fun k h1 h2 => HS.out.1 k (.inr ⟨h1, by omega⟩)
        have hrow2 := (hK b hb1 hb2).trans hrow
        obtain ⟨gv, capv, hv, hgv1, hgv2, hov⟩ := hnb.fv
        have hov2 := ownsRow_same (w' := wr) hov (fun k e => by
          obtain rfl : gv = k := by simpa [Value.ownBlock] using e
          exact hK gv hgv1 hgv2)
        have hcg : wr.cell? ⟨g, q * 2, none⟩ = some (.iface 57 (.pointer (some ⟨b, 0, none⟩))) := by
          have h1 := (HG.out.2.2.1.cells hlt).1
          rw [hus] at h1
          rw [World.cell?_of_block (a := ⟨g, q * 2, none⟩) (HS.out.1 g (.inl hgb))]
          exact h1
        have c0 : wr.cell? ⟨r, 0, none⟩ = some (.slice (some ⟨g, 0, none⟩) n cap) := (cell_of_row _ _ 0 _ _ _ ((HS.out.1 r (.inl (by omega))).trans HR.out)).trans rfl
        have hnd := HST.out.node q hlt
        obtain ⟨y, hy⟩ : ∃ y, y = nb q := ⟨_, rfl⟩
        rw [← hy] at hnd
        have hlv := (Array.getElem?_eq_some_iff.1 hnd.row).1
        have hvr := (HS.out.2.block _ hlv).trans hnd.row
        have yO : wr.cell? ⟨O, q, none⟩ = some (.pointer (some ⟨vb q, 0, none⟩)) := by
          have h1 : W.cell? ⟨O, q, none⟩ = some (.pointer (some ⟨vb q, 0, none⟩)) := by
            refine (HST.out.orig.cellAt q (by omega)).trans ?_
            rw [List.getElem?_append_left (by rw [ptrs_len]; exact hlt), ptrs_get _ _ _ hlt]
          exact (HS.out.2.cell (p := ⟨O, q, none⟩) (World.block_lt_of_cell? W ⟨O, q, none⟩ h1)).trans h1
        obtain ⟨ba', off, rfl, hba, hcc⟩ := HI.out.cell (k := q) (by rw [HL.out]; exact hlt)
        have hbw : Below w.heap.size w wr := HST.out.below.trans (HS.out.2.mono HST.out.below.size)
        have hc1 : wr.cell? ⟨ba', off + q, none⟩ = some (.string (zs.getD q ByteArray.empty)) := (hbw.cell (p := ⟨ba', off + q, none⟩) hba).trans (hcc q (by rw [HL.out]; exact hlt))
        obtain ⟨md, hmd⟩ : ∃ md, md = modeAt fm q := ⟨_, rfl⟩
        have h4 : md < 4 := by rw [hmd]; exact modeAt_lt fm q
        have HNM := Lib.hid (fun W => nodeMode fm q (by omega) W)
        rw [← hmd] at HNM hov2 hv hov
        have hfr := hnd.free
        rw [← hmd] at hfr
        obtain ⟨t, ht⟩ : ∃ t, zs.getD q ByteArray.empty = t := ⟨_, rfl⟩
        rw [ht] at hc1 hov2 hrow2 hv hfr hov
        obtain ⟨fl, hfl0⟩ : ∃ fl, fl = freeAt md t fz := ⟨_, rfl⟩
        rw [← hfl0] at hov2 hv hfr hov
        have hfle : fl.length ≤ 1048576 := by rw [hfl0]; exact freeAt_len md t fz (by rw [HFL.out]; omega)
        have y0 : wr.cell? ⟨b, 0, none⟩ = some (.string t) := (cell_of_row _ _ 0 _ _ _ hrow2).trans rfl
        have z0 : wr.frozen? ⟨b, 0, none⟩ = false := frozen_of hrow2 0
        have qv : (binOp .eql 57 (.pointer (some ⟨b, 0, none⟩)) (.pointer (some ⟨vb q, 0, none⟩))).run Tryf.prog wr = .ok (.bool false) wr := eq_heads (P := Tryf.prog) Tryf.underlying57 (te := 60) (n := 10) (by kernel_rfl) (by decide) (by omega) hrow2 hvr 0
        have i5 : (0 : Int) ≤ (q : Int) := Int.natCast_nonneg _
        have i6 : (q : Int) < (n : Int) := by omega
        obtain ⟨t5, ht5⟩ := markEx t
        have HT5 := Lib.hid ht5
        have HE := Lib.hid (zzElemVar r g q n cap b none wr c0 hlt hcg)
        have HOV := Lib.hid hov2
        have HVV := Lib.hid hv
        have HFR := Lib.hid hfr
        have HROW := Lib.hid hrow2
        have HVR := Lib.hid hvr
        have HCX := Lib.hid hnb.ctx
        have HFL0 := Lib.hid hfl0
        have HT := Lib.hid ht
        have HBW := Lib.hid hbw
        have HKK := Lib.hid hK
        clear hrow hnb hus hK hov hov2 hcg hnd hvr hcc hmd ht hfl0 hv hfr hrow2 ht5 hbw c0 hy
        go_wp2_with fail
        refine HE.out.mono ?_
        rintro e w' ⟨rfl, h⟩
        subst w'
        go_wp2_with fail
        go_quiet (fail)
        go_upto_region 35 with (fail)
        have y0' : (wr.drewN nq).cell? ⟨b, 0, none⟩ = some (.string t) := y0
        have z0' : (wr.drewN nq).frozen? ⟨b, 0, none⟩ = false := z0
        have hc1' : (wr.drewN nq).cell? ⟨ba', off + q, none⟩ = some (.string t) := hc1
        have yO' : (wr.drewN nq).cell? ⟨O, q, none⟩ = some (.pointer (some ⟨vb q, 0, none⟩)) := yO
        clear y0 z0 hc1 yO qv
        generalize hW6 : wr.drewN nq = W6 at y0' z0' hc1' yO' ⊢
        have HW6 := Lib.hid (show ∀ k : Nat, W6.heap[k]? = wr.heap[k]? from fun k => by rw [← hW6]; rfl)
        have HB6 := Lib.hid (show Below W.heap.size W W6 from by rw [← hW6]; exact drewN_below HS.out.2 nq)
        clear hW6
        go_wp2_with fail
        refine (HT5.out W6).mono ?_
        rintro e w' ⟨rfl, h⟩
        subst w'
        go_wp2_with fail
        have hR7 : (W6.setCell ⟨b, 0, none⟩ (.string t5)).heap[b]? = some (.cells (varCells t5 x) 60 (0, 0)) := (Lib.heap_setCell_same ((HW6.out b).trans HROW.out) _).trans (by simp [varCells])
        have hK7 : ∀ k, k ≠ b → (W6.setCell ⟨b, 0, none⟩ (.string t5)).heap[k]? = wr.heap[k]? := fun k hk => (Below.heap_setCell W6 _ _ k hk).trans (HW6.out k)
        have hB7 : Below W.heap.size W (W6.setCell ⟨b, 0, none⟩ (.string t5)) := HB6.out.setCell (by show W.heap.size ≤ b; omega) _
        clear y0' z0' hc1' yO'
        refine (HNM.out _).mono ?_
        rintro e w' ⟨rfl, h⟩
        subst w'
        generalize W6.setCell ⟨b, 0, none⟩ (.string t5) = W7 at hR7 hK7 hB7 ⊢
        have HR7 := Lib.hid hR7
        have HK7 := Lib.hid hK7
        have HB7 := Lib.hid hB7
        have y3 : W7.cell? ⟨b, 3, none⟩ = some (.slice (some ⟨gv, 0, none⟩) fl.length capv) := (cell_of_row _ _ 3 _ _ _ hR7).trans (congrArg some HVV.out)
        have hneb : ∀ {k : Nat} {C : Array Value} {T : TypeId} {fr : Nat × Nat}, wr.heap[k]? = some (.cells C T fr) → T ≠ 60 → W7.heap[k]? = some (.cells C T fr) := fun {k C T fr} h1 h2 => (hK7 k (fun e => by rw [e, HROW.out] at h1; cases h1; exact h2 rfl)).trans h1
        have hbw7 : Below w.heap.size w W7 := HST.out.below.trans (hB7.mono HST.out.below.size)
        have hc7 : W7.cell? ⟨ba', off + q, none⟩ = some (.string t) := by
          obtain ⟨b0, off0, e0, hb0, hcc⟩ := HI.out.cell (k := q) (by rw [HL.out]; exact hlt)
          cases e0
          rw [← HT.out]
          exact (hbw7.cell (p := ⟨ba', off + q, none⟩) hb0).trans (hcc q (by rw [HL.out]; exact hlt))
        have HO7 := Lib.hid (show W7.ownsRow (bs' q) 51 1 (.slice (some ⟨gv, 0, none⟩) fl.length capv) fl.length (fl.map Value.string) from ownsRow_same HOV.out (fun k e => by
          obtain ⟨cc, fr, hcc⟩ := Lib.ownsRow_kind HOV.out k e
          exact (hneb hcc (by decide)).trans hcc.symm))
        have HFI2 := Lib.hid (show ∀ j, Calls Tryf.prog 17 #[.slice (some ⟨gv, 0, none⟩) fl.length capv, .int .i64 md, .string t, .slice fa m fc] (W7.drewN j) fun e w' => e = .returned (.bool true) ∧ ∃ m, w' = (W7.drewN j).drewN m from fun j => freeIs (some ⟨gv, 0, none⟩) fl.length capv _ md h4 t fa m fc _ fz (W7.drewN j) (by rw [← HFL0.out]; exact ((show FreeSt (bs' q) W7 (.slice (some ⟨gv, 0, none⟩) fl.length capv) fl from .inr ⟨gv, capv, rfl, hgv1, HO7.out⟩).strs hfle).drewN j) (by rw [← HFL0.out]) ((HFI.out.below hbw7).drewN j) HFL.out (by omega))
        clear hR7 hK7 hB7 hneb hbw7
        go_wp2_with fail
        go_quiet (exact Calls.quiet_of (HFI2.out _))
        go_upto_if 258 with (fail)
        have y3' : (W7.drewN nq).cell? ⟨b, 3, none⟩ = some (.slice (some ⟨gv, 0, none⟩) fl.length capv) := y3
        clear y3 hc7 HFI2
        go_cut [] from 231 to 258 (fun wd => Hid (wd.heap[b]? = some (.cells (varCells t5 x) 60 (0, 0)) ∧ (∀ k, k ≠ b → k ≠ gv → wd.heap[k]? = wr.heap[k]?) ∧ Below W.heap.size W wd))
        case first =>
          as_aux_lemma =>
            by_cases h0 : 0 < fl.length
            · obtain ⟨go, capo, ego, hgo, ho⟩ : FvNew w.heap.size W (.slice y.va y.vn y.vc) fl := by
                rcases HFR.out with ⟨_, e2⟩ | h
                · rw [e2] at h0
                  exact absurd h0 (by simp)
                · exact h
              rw [ego] at ho
              obtain ⟨go2, co2, curo, eo2, _, hgoC⟩ := own_some ho h0
              obtain rfl : go = go2 := by have := (Value.slice.inj eo2).1; simpa using this
              obtain ⟨gv2, cv2, curv, ev2, _, hgvC⟩ := own_some HO7.out h0
              obtain rfl : gv = gv2 := by have := (Value.slice.inj ev2).1; simpa using this
              have hvb : vb q ≠ b := by have := (Array.getElem?_eq_some_iff.1 (show W.heap[vb q]? = _ from (HS.out.2.block _ hlv).symm.trans HVR.out)).1; omega
              have yv : (W7.drewN nq).cell? ⟨vb q, 3, none⟩ = some (.slice (some ⟨go, 0, none⟩) fl.length capo) := (cell_of_row _ _ 3 _ _ _ ((HK7.out _ hvb).trans HVR.out)).trans (congrArg some ego)
              have hOb : O ≠ b := fun e => by
                obtain ⟨cc, fr, hcc⟩ := Lib.ownsRow_kind HST.out.orig O rfl
                have := (Array.getElem?_eq_some_iff.1 hcc).1
                omega
              have hO7 : (W7.drewN nq).cell? ⟨O, q, none⟩ = some (.pointer (some ⟨vb q, 0, none⟩)) := by
                have h1 : W.cell? ⟨O, q, none⟩ = some (.pointer (some ⟨vb q, 0, none⟩)) := by
                  refine (HST.out.orig.cellAt q (by omega)).trans ?_
                  rw [List.getElem?_append_left (by rw [ptrs_len]; exact hlt), ptrs_get _ _ _ hlt]
                exact (HB7.out.cell (p := ⟨O, q, none⟩) (World.block_lt_of_cell? W ⟨O, q, none⟩ h1)).trans h1
              have qi : ∀ j, (binOp .eql 50 (.pointer (some ⟨gv, 0, none⟩)) (.pointer (some ⟨go, 0, none⟩))).run Tryf.prog ((W7.drewN nq).drewN j) = .ok (.bool false) ((W7.drewN nq).drewN j) := fun j => eq_heads (P := Tryf.prog) Tryf.underlying50 (te := 51) (n := 1) (W := W7.drewN nq) (by kernel_rfl) (by decide) (by have := (Array.getElem?_eq_some_iff.1 hgoC).1; omega) (show W7.heap[gv]? = _ from hgvC) (show W7.heap[go]? = _ from (HB7.out.block go (Array.getElem?_eq_some_iff.1 hgoC).1).trans hgoC) j
              obtain ⟨z1, hz1⟩ : ∃ z1, z1 = fl.getD 0 ByteArray.empty := ⟨_, rfl⟩
              have yg : (W7.drewN nq).cell? ⟨gv, 0, none⟩ = some (.string z1) := (HO7.out.cellAt 0 (by omega)).trans (by
                rw [List.getElem?_map, hz1]
                simp [List.getD, List.getElem?_eq_getElem h0])
              have zg : (W7.drewN nq).frozen? ⟨gv, 0, none⟩ = false := frozen_of (show W7.heap[gv]? = _ from hgvC) 0
              obtain ⟨t6, ht6⟩ := markEx z1
              have HT6 := Lib.hid ht6
              have hne : b ≠ gv := fun e => by
                have h := HR7.out
                rw [e, hgvC] at h
                cases h
              have i0 : (0 : Int) < (fl.length : Int) := by omega
              have i1 : decide ((0 : Int) < (fl.length : Int)) = true := decide_eq_true i0
              generalize hL : fl.length = ln at y3' yv i0 i1 ⊢
              have HLN := Lib.hid hL
              have HWX := Lib.hid (show ∀ k : Nat, (W7.drewN nq).heap[k]? = W7.heap[k]? from fun k => rfl)
              have HBX := Lib.hid (show Below W.heap.size W (W7.drewN nq) from drewN_below HB7.out nq)
              generalize W7.drewN nq = Wx at y3' yv hO7 qi yg zg HWX HBX ⊢
              clear hgoC hgvC ho eo2 ev2 ego ht6 hz1 hL h0
              go_wp2_with fail
              go_quiet (fail)
              go_upto_region 42 with (fail)
              have HWX2 := Lib.hid (show ∀ k : Nat, (Wx.drewN nq).heap[k]? = W7.heap[k]? from fun k => HWX.out k)
              have HBX2 := Lib.hid (show Below W.heap.size W (Wx.drewN nq) from drewN_below HBX.out nq)
              have y3'' : (Wx.drewN nq).cell? ⟨b, 3, none⟩ = some (.slice (some ⟨gv, 0, none⟩) ln capv) := y3'
              have yg' : (Wx.drewN nq).cell? ⟨gv, 0, none⟩ = some (.string z1) := yg
              have zg' : (Wx.drewN nq).frozen? ⟨gv, 0, none⟩ = false := zg
              clear y3' yv hO7 qi yg zg HWX HBX
              generalize Wx.drewN nq = Wy at y3'' yg' zg' HWX2 HBX2 ⊢
              go_still_tail 14, (by kernel_rfl)
              still_call (HT6.out _)
              repeat still_step
              refine wpStill_nil ?_
              change wpList _ _ _ _ _ Wy.drew
              go_wp2_with fail
              go_meet
              refine Lib.hid ⟨(Below.heap_setCell Wy _ _ b hne).trans ((HWX2.out b).trans HR7.out), fun k h1 h2 => (Below.heap_setCell Wy _ _ k h2).trans ((HWX2.out k).trans (HK7.out k h1)), drew_below (HBX2.out.setCell (by show W.heap.size ≤ gv; omega) _)⟩
            · have i0 : ¬ (0 : Int) < (fl.length : Int) := by omega
              have i1 : decide ((0 : Int) < (fl.length : Int)) = false := decide_eq_false i0
              go_wp2_with fail
              go_meet
              exact Lib.hid ⟨HR7.out, fun k h1 _ => HK7.out k h1, drewN_below HB7.out nq⟩
        case rest =>
        have HJ4 := Lib.hid hcut.out
        clear hcut
        go_upto_if 289 with (fail)
        have hlo : W.heap.size ≤ bs' q := by omega
        cases bv with
        | false =>
          have hx : x.ca = none := HCX.out
          have y1 : wc.cell? ⟨b, 2, none⟩ = some (.pointer none) := by rw [← hx]; exact (cell_of_row _ _ 2 _ _ _ HJ4.out.1).trans rfl
          clear hx
          go_wp2
          go_roundw
          case rel => exact ⟨q + 1, by omega, by go_num, Lib.hid ⟨fun k hk => (HJ4.out.2.1 k (by omega) (by omega)).trans (HS.out.1 k (by omega)), HJ4.out.2.2⟩⟩
          case measure => simp [intOf]; omega
        | true =>
          obtain ⟨qx, hq1, hq2, hx, hq3⟩ : ∃ k, bs' q ≤ k ∧ k < bs' (q + 1) ∧ x.ca = some ⟨k, 0, none⟩ ∧ W2.heap[k]? = some (.cells #[.string cx] 9 (0, 0)) := HCX.out
          have hq4 := (HKK.out qx hq1 hq2).trans hq3
          have hq5 := (HJ4.out.2.1 qx (fun e => by rw [e, HROW.out] at hq4; cases hq4) (fun e => by
            obtain ⟨cc, fr, hcc⟩ := Lib.ownsRow_kind HOV.out gv rfl
            rw [e, hcc] at hq4
            cases hq4)).trans hq4
          have y1 : wc.cell? ⟨b, 2, none⟩ = some (.pointer (some ⟨qx, 0, none⟩)) := by rw [← hx]; exact (cell_of_row _ _ 2 _ _ _ HJ4.out.1).trans rfl
          have y2 : wc.cell? ⟨qx, 0, none⟩ = some (.string cx) := (cell_of_row _ _ 0 _ _ _ hq5).trans rfl
          have y3 : wc.frozen? ⟨qx, 0, none⟩ = false := frozen_of hq5 0
          have q1 := neCtx HA1.out hq5 (by omega) (fun k hk => HJ4.out.2.2.block k hk)
          have q2 := neCtx HA2.out hq5 (by omega) (fun k hk => HJ4.out.2.2.block k hk)
          clear hx hq3 hq4 hq5
          go_wp2
          go_roundw
          case rel => exact ⟨q + 1, by omega, by go_num, Lib.hid ⟨fun k hk => (Below.heap_setCell wc _ _ k (by show k ≠ qx; omega)).trans ((HJ4.out.2.1 k (by omega) (by omega)).trans (HS.out.1 k (by omega))), HJ4.out.2.2.setCell (by show W.heap.size ≤ qx; omega) _⟩⟩
          case measure => simp [intOf]; omega
      · obtain rfl : n = q := by omega
        have HB3 := Lib.hid (HS.out.2)
        go_wp2_with fail
        refine (srcIntact A O a n c zs fa m fc fz va vc ca cv tc ba bv fm cx vb nb w wr w.heap.size HI.out HL.out hn HFI.out HFL.out hm (HST.out.belowN HB3.out) HNL.out (ctxBelow HA1.out HB3.out) (ctxBelow HA2.out HB3.out)).mono ?_
        rintro e w' ⟨rfl, kk, rfl⟩
        go_wp2
        go_ret
        exact ⟨rfl, drewN_below (HST.out.below.trans (HB3.out.mono HST.out.below.size)) kk⟩

end Go.Proofs.YtegabjiaekfmbaaFmt.fnCloneArrayIsFreshEqualCopy
