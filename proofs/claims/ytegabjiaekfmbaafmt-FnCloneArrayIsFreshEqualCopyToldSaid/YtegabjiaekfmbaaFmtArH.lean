/-
  n008_147: sourceIntact.
-/
import Derived.Test.YtegabjiaekfmbaaFmtArF
import Derived.Lib.Builder
namespace Go.Proofs.YtegabjiaekfmbaaFmt
open Go Go.RowKit
namespace Arr

theorem neqPtr {tp te : TypeId} {n : Nat} (hp : Tryf.prog.underlying tp = some (.pointer te)) (hs : (Tryf.prog.info? te).map (fun i => i.size) = some n) (a : Option Addr) (w : World) : (binOp .neq tp (.pointer a) (.pointer a)).run Tryf.prog w = .ok (.bool false) w := by
  cases a with
  | none => exact run_neq_pointer_nil w tp none (by simp [Program.pointee, hp])
  | some a =>
    obtain ⟨t, ht, _⟩ := info_size hs
    exact Lib.run_neq_ptr_same (w := w) a hp ht
theorem ArrSt.belowN {w W : World} {A O n q m : Nat} {tc : Bool} {va : Option Addr} {vc : Nat} {ca cv : Option Addr} {fm : Int} {zs fz : List ByteArray} {vb : Nat → Nat} {nb : Nat → NBase} {W' : World} (h : ArrSt w W A O n q m tc va vc ca cv fm zs fz vb nb) (hb : Below W.heap.size W W') : ArrSt w W' A O n q m tc va vc ca cv fm zs fz vb nb := by
  obtain ⟨⟨ev, h1, h2⟩, h3, h4, h5, h6, h7, h8⟩ := h
  refine ⟨⟨ev, (hb.block A (Array.getElem?_eq_some_iff.1 h1).1).trans h1, ownsRow_same h2 fun k e => ?_⟩, ownsRow_same h3 fun k e => ?_, fun i hi => (h4 i hi).below hb, h5.keep fun k e => ?_, h6.trans (hb.mono h6.size), h7, h8⟩
  · obtain ⟨c, fr, hc⟩ := Lib.ownsRow_kind h2 k e
    exact hb.block k (Array.getElem?_eq_some_iff.1 hc).1
  · obtain ⟨c, fr, hc⟩ := Lib.ownsRow_kind h3 k e
    exact hb.block k (Array.getElem?_eq_some_iff.1 hc).1
  · obtain ⟨c, fr, hc⟩ := h5.kind e
    exact hb.block k (Array.getElem?_eq_some_iff.1 hc).1
theorem ArrSt.drewN {w W : World} {A O n q m : Nat} {tc : Bool} {va : Option Addr} {vc : Nat} {ca cv : Option Addr} {fm : Int} {zs fz : List ByteArray} {vb : Nat → Nat} {nb : Nat → NBase} (h : ArrSt w W A O n q m tc va vc ca cv fm zs fz vb nb) (k : Nat) : ArrSt w (W.drewN k) A O n q m tc va vc ca cv fm zs fz vb nb := h.belowN (drewN_below (Below.refl _ W) k)
theorem own_slice {w : World} {B : Nat} {e : TypeId} {v : Value} {n : Nat} {xs : List Value} {size : Nat} (h : w.ownsRow B e size v n xs) : ∃ a c, v = .slice a n c := by
  rcases h.2 with ⟨rfl, rfl⟩ | ⟨g, cap, cur, rfl, _⟩
  · exact ⟨_, _, rfl⟩
  · exact ⟨_, _, rfl⟩
theorem own_some {w : World} {B : Nat} {e : TypeId} {v : Value} {n : Nat} {xs : List Value} {size : Nat} (h : w.ownsRow B e size v n xs) (hn : 0 < n) : ∃ g c cur, v = .slice (some ⟨g, 0, none⟩) n c ∧ B ≤ g ∧ w.heap[g]? = some (.cells cur e (0, 0)) := by
  rcases h.2 with ⟨_, h0⟩ | ⟨g, cap, cur, rfl, h1, h2, _⟩
  · omega
  · exact ⟨g, cap, cur, rfl, h1, h2⟩
theorem elts_len (n : Nat) (vb : Nat → Nat) : (elts n vb).length = n * 2 := by
  induction n with
  | zero => rfl
  | succ n ih => rw [elts_succ, List.length_append, ih]; simp; omega
theorem elts_get (vb : Nat → Nat) : ∀ n i, i < n → (elts n vb)[i * 2]? = some (.iface 57 (.pointer (some ⟨vb i, 0, none⟩))) ∧ (elts n vb)[i * 2 + 1]? = some (.slice none 0 0)
  | 0, i, hi => by omega
  | n + 1, i, hi => by
    rw [elts_succ]
    have hl := elts_len n vb
    by_cases e : i = n
    · subst e
      rw [List.getElem?_append_right (by omega), List.getElem?_append_right (by omega), hl, Nat.sub_self, show i * 2 + 1 - i * 2 = 1 by omega]
      exact ⟨rfl, rfl⟩
    · rw [List.getElem?_append_left (by omega), List.getElem?_append_left (by omega)]
      exact elts_get vb n i (by omega)

theorem srcCtx (B : Nat) (ca : Option Addr) (cx : ByteArray) (b : Bool) (W : World) (h : CtxNew B W ca (if b then some cx else none)) :
    Calls Tryf.prog 46 #[.pointer ca, .string cx] W fun e w' => e = .returned (.bool true) ∧ w' = W := by
  cases b with
  | false =>
    obtain rfl : ca = none := h
    go_enter Tryf.func46, Tryf.ntmps46
    go_wp2
    go_ret
    exact ⟨rfl, rfl⟩
  | true =>
    obtain ⟨q, _, rfl, hq⟩ := h
    have c0 : W.cell? ⟨q, 0, none⟩ = some (.string cx) := (cell_of_row _ _ 0 _ _ _ hq).trans rfl
    clear hq
    go_enter Tryf.func46, Tryf.ntmps46
    go_wp2
    go_ret
    exact ⟨rfl, rfl⟩

set_option maxHeartbeats 3200000 in
set_option maxRecDepth 100000 in
theorem srcIntact (A O : Nat) (a : Option Addr) (n c : Nat) (zs : List ByteArray) (fa : Option Addr) (m fc : Nat) (fz : List ByteArray) (va : Option Addr) (vc : Nat) (ca cv : Option Addr) (tc ba bv : Bool) (fm : Int) (cx : ByteArray) (vb : Nat → Nat) (nb : Nat → NBase) (w W : World) (B : Nat) (hi : StrsAt w w.heap.size (.slice a n c) zs) (hl : zs.length = n) (hn : n ≤ 65536) (hfi : StrsAt w w.heap.size (.slice fa m fc) fz) (hfl : fz.length = m) (hm : m ≤ 65536)
    (hst : ArrSt w W A O n n m tc va vc ca cv fm zs fz vb nb) (hnil : va.isNone = fa.isNone) (hca : CtxNew B W ca (if ba then some cx else none)) (hcv : CtxNew B W cv (if bv then some cx else none)) :
    Calls Tryf.prog 18 #[.pointer (some ⟨A, 0, none⟩), .slice (some ⟨O, 0, none⟩) n n, .slice a n c, .slice fa m fc, .string cx, .pointer ca, .pointer cv, .bool tc, .int .i64 fm] W fun e W' => e = .returned (.bool true) ∧ ∃ k, W' = W.drewN k := by
  obtain ⟨ev, hA, hown⟩ := hst.arr
  obtain ⟨ea, ec, rfl⟩ := own_slice hown
  have c0 : W.cell? ⟨A, 0, none⟩ = some (.slice ea n ec) := (cell_of_row _ _ 0 _ _ _ hA).trans rfl
  have c3 : W.cell? ⟨A, 3, none⟩ = some (.pointer ca) := (cell_of_row _ _ 3 _ _ _ hA).trans rfl
  have c4 : W.cell? ⟨A, 4, none⟩ = some (.slice va m vc) := (cell_of_row _ _ 4 _ _ _ hA).trans rfl
  have c11 : W.cell? ⟨A, 11, none⟩ = some (.bool tc) := (cell_of_row _ _ 11 _ _ _ hA).trans rfl
  have qn : ∀ (a : Option Addr) w, (binOp .neq 26 (.pointer a) (.pointer a)).run Tryf.prog w = .ok (.bool false) w := fun a w => neqPtr (te := 9) (n := 1) Tryf.underlying26 (by kernel_rfl) a w
  have qv : ∀ (b : Addr) w, (binOp .neq 57 (.pointer (some b)) (.pointer (some b))).run Tryf.prog w = .ok (.bool false) w := fun b w => neqPtr (te := 60) (n := 10) Tryf.underlying57 (by kernel_rfl) (some b) w
  have qs : ∀ w, (binOp .eql 38 (.slice va m vc) (.slice none 0 0)).run Tryf.prog w = .ok (.bool fa.isNone) w := fun w => by rw [← hnil]; exact Lib.run_eql_slice_nil w _ _ va m vc 0 0 Tryf.underlying38
  have qf : ∀ w, (binOp .eql 22 (.slice fa m fc) (.slice none 0 0)).run Tryf.prog w = .ok (.bool fa.isNone) w := fun w => Lib.run_eql_slice_nil w _ _ fa m fc 0 0 Tryf.underlying22
  have qx : ∀ w (a : Option Addr) (n c : Nat), (binOp .neq 38 (.slice a n c) (.slice none 0 0)).run Tryf.prog w = .ok (.bool (!a.isNone)) w := fun w a n c => run_neq_slice_nil_any w _ _ a n c 0 0 Tryf.underlying38
  have H1 := Lib.hid (srcCtx B ca cx ba W hca)
  have H2 := Lib.hid (srcCtx B cv cx bv W hcv)
  have H3 := Lib.hid (identsAre va fa m vc fc _ _ fz W (hst.free.strs (by omega)) (hfi.below hst.below) hfl (by omega))
  have HST := Lib.hid hst
  have HOW := Lib.hid hown
  have HI := Lib.hid hi
  have HL := Lib.hid hl
  have HFI := Lib.hid hfi
  have HFL := Lib.hid hfl
  clear hst hca hcv hA hown hi hl hfi hfl
  go_enter Tryf.func18, Tryf.ntmps18
  go_wp2_with fail
  refine H1.out.mono ?_
  rintro e w' ⟨rfl, h⟩
  subst w'
  go_wp2_with fail
  refine H2.out.mono ?_
  rintro e w' ⟨rfl, h⟩
  subst w'
  go_wp2_with fail
  refine H3.out.mono ?_
  rintro e w' ⟨rfl, k0, h⟩
  subst w'
  go_wp2_with fail
  clear H1 H2 H3 qs qf c3 c4 c11
  go_loopw [19] (fun i wr => ∃ q k : Nat, q ≤ n ∧ i = .int .i64 q ∧ Hid (wr = W.drewN k)) (fun i _ => n - (intOf i).toNat)
  case atStart => exact ⟨0, k0, Nat.zero_le _, rfl, Lib.hid rfl⟩
  case round =>
    obtain ⟨q, k, hq, rfl, HW⟩ := hrel
    by_cases hlt : q < n
    · obtain ⟨L, ecap, Lc, he, hL1, hL2⟩ := own_some HOW.out (by omega)
      obtain ⟨rfl, rfl⟩ : ea = some ⟨L, 0, none⟩ ∧ ec = ecap := by cases he; exact ⟨rfl, rfl⟩
      have hnd := HST.out.node q hlt
      obtain ⟨b, off, rfl, hb, hcc⟩ := HI.out.cell (k := q) (by rw [HL.out]; exact hlt)
      have hc1 : wr.cell? ⟨b, off + q, none⟩ = some (.string (zs.getD q ByteArray.empty)) := by rw [HW.out]; exact (HST.out.below.cell (p := ⟨b, off + q, none⟩) hb).trans (hcc q (by rw [HL.out]; exact hlt))
      have hv : ∃ x, x = nb q := ⟨_, rfl⟩
      obtain ⟨x, hx⟩ := hv
      rw [← hx] at hnd
      have y0 : wr.cell? ⟨vb q, 0, none⟩ = some (.string (zs.getD q ByteArray.empty)) := by rw [HW.out]; exact (cell_of_row _ _ 0 _ _ _ hnd.row).trans rfl
      have y2 : wr.cell? ⟨vb q, 2, none⟩ = some (.pointer cv) := by rw [HW.out]; exact (cell_of_row _ _ 2 _ _ _ hnd.row).trans (by rw [hnd.eq]; rfl)
      have y3 : wr.cell? ⟨vb q, 3, none⟩ = some (.slice x.va x.vn x.vc) := by rw [HW.out]; exact (cell_of_row _ _ 3 _ _ _ hnd.row).trans rfl
      have yO : wr.cell? ⟨O, q, none⟩ = some (.pointer (some ⟨vb q, 0, none⟩)) := by
        rw [HW.out]
        refine (HST.out.orig.cellAt q (by omega)).trans ?_
        rw [List.getElem?_append_left (by rw [ptrs_len]; exact hlt), ptrs_get _ _ _ hlt]
      have yL : W.cell? ⟨L, q * 2, none⟩ = some (.iface 57 (.pointer (some ⟨vb q, 0, none⟩))) := (HOW.out.cellAt (q * 2) (by omega)).trans (elts_get vb n q hlt).1
      obtain ⟨md, hmd⟩ : ∃ md, md = modeAt fm q := ⟨_, rfl⟩
      have h4 : md < 4 := by rw [hmd]; exact modeAt_lt fm q
      have i5 : (0 : Int) ≤ (q : Int) := Int.natCast_nonneg _
      have i6 : (q : Int) < (n : Int) := by omega
      have hnx : md = 0 → x.va = none := fun e => hnd.nil (hmd.symm.trans e)
      have hfr := hnd.free
      rw [← hmd] at hfr
      obtain ⟨t, ht⟩ : ∃ t, zs.getD q ByteArray.empty = t := ⟨_, rfl⟩
      rw [ht] at hc1 y0 hfr
      have hln : (freeAt md t fz).length ≤ 1048576 := by
        unfold freeAt
        split
        · simp
        · split
          · rw [HFL.out]; omega
          · simp
      have hlv : (freeAt md t fz).length = x.vn := by
        rcases hfr with ⟨e1, e2⟩ | ⟨g, cap, e1, _⟩
        · rw [e2]; exact (Value.slice.inj e1).2.1.symm
        · exact (Value.slice.inj e1).2.1.symm
      have HF := Lib.hid (show ∀ j i, Calls Tryf.prog 17 #[.slice x.va x.vn x.vc, .int .i64 md, .string t, .slice fa m fc] (wr.drewN (j + i)) fun e w' => e = .returned (.bool true) ∧ ∃ n, w' = wr.drewN (j + n) from fun j i => (freeIs x.va x.vn x.vc _ md h4 t fa m fc _ fz (wr.drewN (j + i)) (by rw [HW.out]; exact ((hfr.strs hln).drewN k).drewN _) hlv (by rw [HW.out]; exact ((HFI.out.below HST.out.below).drewN k).drewN _) HFL.out (by omega)).mono fun e w' ⟨h1, m, h2⟩ => ⟨h1, i + m, by rw [h2, World.drewN_drewN, Nat.add_assoc]⟩)
      have HE := Lib.hid (show ∀ j, Calls Tryf.prog 15 #[.pointer (some ⟨A, 0, none⟩), .int .i64 q] (wr.drewN j) fun e w' => e = .returned (.pointer (some ⟨vb q, 0, none⟩)) ∧ w' = wr.drewN j from fun j => (zzElemVar A L q n ec (vb q) none (wr.drewN j) (by rw [HW.out]; exact c0) hlt (by rw [HW.out]; exact yL)).mono fun e w' ⟨h1, h2⟩ => ⟨h1, h2.symm⟩)
      have HNM := Lib.hid (nodeMode fm q (by omega) wr)
      rw [← hmd] at HNM
      clear hnd hfr hcc yL hln hlv hmd hx hL2 ht
      go_wp2_with fail
      refine HNM.out.mono ?_
      rintro e w' ⟨rfl, h⟩
      subst w'
      go_wp2_with fail
      go_quiet (refine Calls.quiet_of_same (HE.out _))
      go_upto_region 13 with (fail)
      go_cut [130] from 118 to 130 (fun s130 wd => Hid (s130 = .bool false ∧ ∃ j, wd = wr.drewN j))
      case first =>
        by_cases m0 : md = 0
        · have hv0 := hnx m0
          have d1 : ((md : Int) == 0) = true := by rw [m0]; rfl
          have qx2 : ∀ w, (binOp .neq 38 (.slice x.va x.vn x.vc) (.slice none 0 0)).run Tryf.prog w = .ok (.bool false) w := fun w => by rw [qx, hv0]; rfl
          have HM := Lib.hid m0
          clear m0 qx hnx hv0
          go_wp2_with fail
          go_meet
          exact Lib.hid ⟨rfl, _, rfl⟩
        · have d1 : ((md : Int) == 0) = false := beq_eq_false_iff_ne.2 (by omega)
          clear hnx
          go_wp2_with fail
          go_meet
          exact Lib.hid ⟨rfl, _, rfl⟩
      case rest =>
      obtain ⟨rfl, j, hwc⟩ := hcut.out
      clear hcut hnx
      subst hwc
      go_wp2_with fail
      go_quiet (exact HF.out _ _)
      go_wp2
      go_roundw
      case rel => exact ⟨q + 1, _, by omega, by go_num, Lib.hid (by rw [HW.out, World.drewN_drewN])⟩
      case measure => simp [intOf]; omega
    · obtain rfl : n = q := by omega
      go_wp2
      go_ret
      exact ⟨rfl, k, HW.out⟩

end Arr
end Go.Proofs.YtegabjiaekfmbaaFmt
