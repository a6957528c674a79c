/-
  n008_147: buildArray: the walk.
-/
import Derived.Test.YtegabjiaekfmbaaFmtArE
import Derived.Test.YtegabjiaekfmbaaFmtHeads
import Derived.Deep.DeepCutAuto
namespace Go.Proofs.YtegabjiaekfmbaaFmt
open Go Go.RowKit
namespace Arr

theorem infoPtrVar : (Tryf.prog.info? 57).map (fun i => (i.zero, i.size, i.bytes)) = some (some (.pointer none), 1, 8) := by kernel_rfl
/-- Blocks of strings stay. -/
def StrKeep (W W' : World) : Prop := ∀ (k : Nat) (c : Array Value) (fr : Nat × Nat), W.heap[k]? = some (.cells c 9 fr) → W'.heap[k]? = some (.cells c 9 fr)
theorem StrKeep.below {W W' : World} (h : Below W.heap.size W W') : StrKeep W W' := fun k _ _ hk => (h.block k (Array.getElem?_eq_some_iff.1 hk).1).trans hk
theorem StrKeep.trans {W W' W'' : World} (h : StrKeep W W') (h' : StrKeep W' W'') : StrKeep W W'' := fun k c fr hk => h' k c fr (h k c fr hk)
/-- The array ahead of its nodes. -/
structure ArrPre (w W : World) (A m : Nat) (tc : Bool) (va : Option Addr) (vc : Nat) (ca : Option Addr) (fz : List ByteArray) (fnil : Bool) : Prop where
  arr : W.heap[A]? = some (.cells (arrCells (.slice none 0 0) { nz with ca := ca, va := va, vn := m, vc := vc } tc) 47 (0, 0))
  free : FreeSt w.heap.size W (.slice va m vc) fz
  nil : va.isNone = fnil
  below : Below w.heap.size w W
  ge : w.heap.size ≤ A

set_option maxHeartbeats 3200000 in
set_option maxRecDepth 100000 in
theorem buildArray (a : Option Addr) (n c : Nat) (zs : List ByteArray) (fa : Option Addr) (m fc : Nat) (fz : List ByteArray) (ca cv : Option Addr) (tc : Bool) (fm : Int) (w W0 : World) (hi : StrsAt w w.heap.size (.slice a n c) zs) (hl : zs.length = n) (hn : n ≤ 65536) (hfi : StrsAt w w.heap.size (.slice fa m fc) fz) (hfl : fz.length = m) (hm : m ≤ 65536) (hb0 : Below w.heap.size w W0) :
    Calls Tryf.prog 11 #[.slice a n c, .slice fa m fc, .pointer ca, .pointer cv, .bool tc, .int .i64 fm] W0 fun e W => ∃ A O va vc vb nb, e = .returned (.tuple #[.pointer (some ⟨A, 0, none⟩), .slice (some ⟨O, 0, none⟩) n n]) ∧ ArrSt w W A O n n m tc va vc ca cv fm zs fz vb nb ∧ va.isNone = fa.isNone ∧ StrKeep W0 W := by
  obtain ⟨i0, hinf, hz0, hz1, hz2⟩ := info_parts infoId
  obtain ⟨i1, hinf1, hy0, hy1, hy2⟩ := info_parts infoPtrVar
  have HI := Lib.hid hi
  have HL := Lib.hid hl
  have HFI := Lib.hid hfi
  have HFL := Lib.hid hfl
  have HB0 := Lib.hid hb0
  have q1 : ∀ (w : World) (a : Option Addr) (n c n' c' : Nat), (binOp .neq 22 (.slice a n c) (.slice none n' c')).run Tryf.prog w = .ok (.bool (!a.isNone)) w := fun w a n c n' c' => run_neq_slice_nil_any w _ _ a n c n' c' Tryf.underlying22
  clear hi hl hfi hfl hb0
  go_enter Tryf.func11, Tryf.ntmps11
  go_upto_if 31 with (fail)
  change Code.wp Tryf.prog _ _ _ (W0.alloc (.cells (arrCells (.slice none 0 0) { nz with ca := ca } tc) 47 (0, 0)))
  have P1 : ArrPre w (W0.alloc (.cells (arrCells (.slice none 0 0) { nz with ca := ca } tc) 47 (0, 0))) W0.heap.size 0 tc none 0 ca [] true := ⟨heap_alloc_new _ _, .inl ⟨rfl, rfl⟩, rfl, HB0.out.trans (((Below.refl _ W0).alloc (Nat.le_refl _) _).mono HB0.out.size), HB0.out.size⟩
  have K1 : Below W0.heap.size W0 (W0.alloc (.cells (arrCells (.slice none 0 0) { nz with ca := ca } tc) 47 (0, 0))) := (Below.refl _ W0).alloc (Nat.le_refl _) _
  have hA0 : W0.heap.size ≤ W0.heap.size := Nat.le_refl _
  generalize (W0.alloc (.cells (arrCells (.slice none 0 0) { nz with ca := ca } tc) 47 (0, 0))) = W1 at P1 K1 ⊢
  generalize hA : W0.heap.size = A at P1 ⊢
  have HP1 := Lib.hid P1
  have HK1 := Lib.hid K1
  clear P1 K1 hA0
  go_cut [] from 29 to 31 (fun wd => Hid (∃ va vc, ArrPre w wd A m tc va vc ca fz fa.isNone ∧ Below W0.heap.size W0 wd))
  case first =>
    cases fa with
    | none =>
      have hn0 : m = 0 ∧ fz = [] := by
        have := HFI.out
        cases this
        exact ⟨rfl, rfl⟩
      obtain ⟨rfl, rfl⟩ := hn0
      go_wp2_with fail
      go_meet
      exact Lib.hid ⟨none, 0, HP1.out, HK1.out⟩
    | some ad =>
      go_wp2_with (refine wpList_make_full _ rfl _ _ 38 rfl W1.heap.size 51 i0 (.string ⟨#[]⟩) 1 Tryf.underlying38 hinf hz0 hz1 .i64 .i64 _ _ m rfl rfl rfl rfl (by rw [hz2]; omega) (by unfold maxLen; omega) (Nat.le_refl _) ?_; intro w4 hown4 hg4)
      have HO : Hid (w4.ownsRow W1.heap.size 51 1 (.slice (some ⟨W1.heap.size, 0, none⟩) m m) m ((fz.map (Value.string)).take 0 ++ List.replicate (m - 0) (.string ⟨#[]⟩))) := Lib.hid (by
        have := toList_madeCells_one (.string ⟨#[]⟩) m
        simp only [Value.cells, Nat.mul_one] at hown4
        rw [this] at hown4
        simpa using hown4)
      have hb4 : Below W1.heap.size W1 w4 := (Below.refl _ _).grown hg4 (Nat.le_refl _) (by simp)
      have HB4 := Lib.hid hb4
      clear hown4 hg4 hb4
      go_loopw [16] (fun i wr => ∃ k : Nat, k ≤ m ∧ i = .int .i64 k ∧ Hid (wr.ownsRow W1.heap.size 51 1 (.slice (some ⟨W1.heap.size, 0, none⟩) m m) m ((fz.map (Value.string)).take k ++ List.replicate (m - k) (.string ⟨#[]⟩)) ∧ Below W1.heap.size W1 wr)) (fun i _ => m - (intOf i).toNat)
      case atStart => exact ⟨0, Nat.zero_le _, rfl, Lib.hid ⟨HO.out, HB4.out⟩⟩
      case round =>
        obtain ⟨k, hk, rfl, HS⟩ := hrel
        by_cases hlt : k < m
        · obtain ⟨b, off, hab, hb, hcc⟩ := HFI.out.cell (k := k) (by rw [HFL.out]; exact hlt)
          obtain rfl : ad = ⟨b, off, none⟩ := Option.some.inj hab
          obtain ⟨z, hzz⟩ : ∃ z, z = fz.getD k ByteArray.empty := ⟨_, rfl⟩
          have hs1 := HP1.out.below.size
          have hc1 : wr.cell? ⟨b, off + k, none⟩ = some (.string z) := by rw [hzz]; exact (HS.out.2.cell (p := ⟨b, off + k, none⟩) (by show b < W1.heap.size; omega)).trans ((HP1.out.below.cell (p := ⟨b, off + k, none⟩) hb).trans (hcc k (by rw [HFL.out]; exact hlt)))
          have hlm : (fz.map (Value.string)).length = m := by rw [List.length_map]; exact HFL.out
          have hc2 : wr.cell? ⟨W1.heap.size, k, none⟩ = some (.string ⟨#[]⟩) := by
            rw [HS.out.1.cellAt k (by omega), List.getElem?_append_right (by rw [List.length_take]; omega), List.length_take, List.getElem?_replicate, if_pos (by omega)]
          have hf2 : wr.frozen? ⟨W1.heap.size, k, none⟩ = false := HS.out.1.frozenAt k
          have HS2 := HS.out.1.stored k (.string z)
          rw [fill_step _ m k hlm hlt _ _ (by rw [List.getElem?_map, hzz]; have := HFL.out; simp [List.getD, List.getElem?_eq_getElem (show k < fz.length by omega)])] at HS2
          have HN := Lib.hid (show _ ∧ Below W1.heap.size W1 _ from ⟨HS2.1, HS.out.2.grown HS2.2 (HS.out.2.size) (by simp)⟩)
          clear HS2 hzz hcc hab hlm
          go_wp2
          go_roundw
          case rel => exact ⟨k + 1, by omega, by go_num, HN⟩
          case measure => simp [intOf]; omega
        · obtain rfl : m = k := by omega
          have hlA : A < W1.heap.size := (Array.getElem?_eq_some_iff.1 HP1.out.arr).1
          have HA2 := Lib.hid ((HS.out.2.block A hlA).trans HP1.out.arr)
          have c4 : wr.cell? ⟨A, 4, none⟩ = some (.slice none 0 0) := (cell_of_row _ _ 4 _ _ _ HA2.out).trans rfl
          have z4 : wr.frozen? ⟨A, 4, none⟩ = false := frozen_of HA2.out 4
          go_wp2_with fail
          go_meet
          have hs1 := HP1.out.below.size
          have ho : wr.ownsRow W1.heap.size 51 1 (.slice (some ⟨W1.heap.size, 0, none⟩) m m) m (fz.map (Value.string)) := by
            have h1 := HS.out.1
            have h2 := HFL.out
            rw [List.take_of_length_le (by rw [List.length_map]; omega), Nat.sub_self] at h1
            simpa using h1
          have ho2 : FvNew W1.heap.size wr (.slice (some ⟨W1.heap.size, 0, none⟩) m m) fz := ⟨W1.heap.size, m, by rw [HFL.out], Nat.le_refl _, by rw [HFL.out]; exact ho⟩
          refine Lib.hid ⟨some ⟨W1.heap.size, 0, none⟩, m, ⟨(Lib.heap_setCell_same HA2.out _).trans (by simp [arrCells]), (show FreeSt w.heap.size wr _ fz from .inr (ho2.mono hs1)).keep (fun k e => ?_), rfl, (HP1.out.below.trans (HS.out.2.mono hs1)).setCell (by show w.heap.size ≤ A; exact HP1.out.ge) _, HP1.out.ge⟩, (HK1.out.trans (HS.out.2.mono HK1.out.size)).setCell (by show W0.heap.size ≤ A; omega) _⟩
          obtain rfl : W1.heap.size = k := by simpa [Value.ownBlock] using e
          exact Below.heap_setCell wr _ _ _ (by show W1.heap.size ≠ A; omega)
  case rest =>
  obtain ⟨va, vc, hp, hk⟩ := hcut.out
  have HP2 := Lib.hid hp
  have HK2 := Lib.hid hk
  clear hp hk hcut HP1 HK1
  clear W1
  go_wp2_with (refine wpList_make_full _ rfl _ _ 30 rfl wc.heap.size 57 i1 (.pointer none) 1 Tryf.underlying30 hinf1 hy0 hy1 .i64 .i64 _ _ n rfl rfl rfl rfl (by rw [hy2]; omega) (by unfold maxLen; omega) (Nat.le_refl _) ?_; intro w4 hown4 hg4)
  have hsz := HP2.out.below.size
  have hlA : A < wc.heap.size := (Array.getElem?_eq_some_iff.1 HP2.out.arr).1
  have hb4 : Below wc.heap.size wc w4 := (Below.refl _ _).grown hg4 (Nat.le_refl _) (by simp)
  have HO : Hid (w4.ownsRow w.heap.size 57 1 (.slice (some ⟨wc.heap.size, 0, none⟩) n n) n (ptrs 0 (fun _ => 0) ++ List.replicate (n - 0) (.pointer none))) := Lib.hid (by
    have := toList_madeCells_one (.pointer none) n
    simp only [Value.cells, Nat.mul_one] at hown4
    rw [this] at hown4
    obtain ⟨h1, h2⟩ := hown4
    refine ⟨by simp [ptrs], ?_⟩
    rcases h2 with ⟨hv, _⟩ | ⟨g, cap, cur, hv, hg, h3⟩
    · cases hv
    · exact .inr ⟨g, cap, cur, hv, by omega, by simpa [ptrs] using h3⟩)
  have HST : Hid (ArrSt w w4 A wc.heap.size n 0 m tc va vc ca cv fm zs fz (fun _ => 0) (fun _ => nz) ∧ StrKeep W0 w4) := Lib.hid ⟨⟨⟨.slice none 0 0, (hb4.block A hlA).trans HP2.out.arr, rfl, .inl ⟨rfl, rfl⟩⟩, HO.out, fun i hi => absurd hi (by omega), HP2.out.free.keep (fun k e => by
    obtain ⟨c, fr, hc⟩ := HP2.out.free.kind e
    exact hb4.block k (Array.getElem?_eq_some_iff.1 hc).1), HP2.out.below.trans (hb4.mono hsz), HP2.out.ge, hsz⟩, StrKeep.below (HK2.out.trans (hb4.mono HK2.out.size))⟩
  have HNL := Lib.hid HP2.out.nil
  clear hown4 hg4 HO hb4 hlA HP2 HK2
  generalize wc.heap.size = O at HST hsz ⊢
  clear wc
  have e1 : bits .and .i64 fm 3 = fm % 4 := i64_and3 fm
  rw [e1]
  have b1 : 0 ≤ fm % 4 ∧ fm % 4 < 4 := by omega
  obtain ⟨b1, b2⟩ := b1
  obtain ⟨r, hr⟩ : ∃ r, r = fm % 4 := ⟨_, rfl⟩
  rw [← hr] at b1 b2
  rw [← hr]
  have HRM := Lib.hid hr
  clear hr e1
  go_loopw [19] (fun i wr => ∃ q : Nat, q ≤ n ∧ i = .int .i64 q ∧ Hid (∃ vb nb, ArrSt w wr A O n q m tc va vc ca cv fm zs fz vb nb ∧ StrKeep W0 wr)) (fun i _ => n - (intOf i).toNat)
  case atStart => exact ⟨0, Nat.zero_le _, rfl, Lib.hid ⟨_, _, HST.out⟩⟩
  case round =>
    obtain ⟨q, hq, rfl, HS⟩ := hrel
    by_cases hlt : q < n
    · obtain ⟨vb, nb, hst, hk0⟩ := HS.out
      obtain ⟨ev, hA, hown⟩ := hst.arr
      obtain ⟨b, off, rfl, hb, hcc⟩ := HI.out.cell (k := q) (by rw [HL.out]; exact hlt)
      have hc1 : wr.cell? ⟨b, off + q, none⟩ = some (.string (zs.getD q ByteArray.empty)) := (hst.below.cell (p := ⟨b, off + q, none⟩) hb).trans (hcc q (by rw [HL.out]; exact hlt))
      have c4 : wr.cell? ⟨A, 4, none⟩ = some (.slice va m vc) := (cell_of_row _ _ 4 _ _ _ hA).trans rfl
      have cO : wr.cell? ⟨O, q, none⟩ = some (.pointer none) := by
        rw [hst.orig.cellAt q (by omega), List.getElem?_append_right (by rw [ptrs_len]; omega), ptrs_len, List.getElem?_replicate, if_pos (by omega)]
      have zO : wr.frozen? ⟨O, q, none⟩ = false := hst.orig.frozenAt q
      obtain ⟨md, hmd⟩ : ∃ md, md = modeAt fm q := ⟨_, rfl⟩
      have e2 : bits .and .i64 (r + q) 3 = (md : Int) := by
        rw [hmd, i64_and3, HRM.out]; unfold modeAt; omega
      have h4 : md = 0 ∨ md = 1 ∨ md = 2 ∨ md = 3 := by have := modeAt_lt fm q; omega
      have e3 : IntKind.i64.wrap (r + q) = r + q := by rw [IntKind.wrap_i64]; omega
      have i5 : (0 : Int) ≤ (q : Int) := Int.natCast_nonneg _
      have i6 : (q : Int) < (n : Int) := by omega
      have HMD := Lib.hid hmd
      have HST2 := Lib.hid hst
      have HA := Lib.hid hA
      have HOW := Lib.hid hown
      have HK0 := Lib.hid hk0
      obtain ⟨t, ht⟩ : ∃ t, zs.getD q ByteArray.empty = t := ⟨_, rfl⟩
      rw [ht] at hc1
      have HT := Lib.hid ht
      have hsw := hst.below.size
      have hlA : A < wr.heap.size := (Array.getElem?_eq_some_iff.1 hA).1
      have hc1o : ∀ o, (wr.alloc o).cell? ⟨b, off + q, none⟩ = some (.string t) := fun o => (((Below.refl _ wr).alloc (Nat.le_refl _) o).cell (p := ⟨b, off + q, none⟩) (by show b < wr.heap.size; omega)).trans hc1
      have c4o : ∀ o, (wr.alloc o).cell? ⟨A, 4, none⟩ = some (.slice va m vc) := fun o => (((Below.refl _ wr).alloc (Nat.le_refl _) o).cell (p := ⟨A, 4, none⟩) hlA).trans c4
      have hX : Hid (∀ Wx x, Below wr.heap.size wr Wx → NodeOk w.heap.size Wx wr.heap.size t x cv md fz → Wx.heap[wr.heap.size]? = some (.cells (varCells t x) 60 (0, 0)) → (Wx.cell? ⟨O, q, none⟩ = some (.pointer none) ∧ Wx.frozen? ⟨O, q, none⟩ = false) ∧ (Wx.setCell ⟨O, q, none⟩ (.pointer (some ⟨wr.heap.size, 0, none⟩))).heap[A]? = some (.cells (arrCells ev { nz with ca := ca, va := va, vn := m, vc := vc } tc) 47 (0, 0)) ∧ (Wx.setCell ⟨O, q, none⟩ (.pointer (some ⟨wr.heap.size, 0, none⟩))).ownsRow w.heap.size 56 2 ev q (elts q vb)) := Lib.hid (fun Wx x hbx hnx hrx => by
        obtain ⟨cc, fo, hco⟩ := Lib.ownsRow_kind hst.orig O rfl
        have hlo : O < wr.heap.size := (Array.getElem?_eq_some_iff.1 hco).1
        refine ⟨⟨(hbx.cell (p := ⟨O, q, none⟩) hlo).trans cO, ?_⟩, ?_, ?_⟩
        · rw [← zO]; exact World.frozen?_of_block (hbx.block O hlo)
        · refine (Below.heap_setCell Wx _ _ A (fun e => ?_)).trans ((hbx.block A hlA).trans hA)
          have e : A = O := e
          rw [e, hco] at hA
          cases hA
        · refine ownsRow_same hown fun k e => ?_
          obtain ⟨c3, f3, hc3⟩ := Lib.ownsRow_kind hown k e
          refine (Below.heap_setCell Wx _ _ k (fun e2 => ?_)).trans (hbx.block k (Array.getElem?_eq_some_iff.1 hc3).1)
          have e2 : k = O := e2
          rw [e2, hco] at hc3
          cases hc3)
      clear hst hA hown hk0 hmd hcc ht HS HST
      rcases h4 with rfl | rfl | rfl | rfl
      · go_upto_region 25 with (fail)
        change Code.wp Tryf.prog _ _ _ (wr.alloc (.cells (varCells t { nz with ca := cv, va := none, vn := 0, vc := 0 }) 60 (0, 0)))
        have hbx : Below wr.heap.size wr (wr.alloc (.cells (varCells t { nz with ca := cv, va := none, vn := 0, vc := 0 }) 60 (0, 0))) := (Below.refl _ wr).alloc (Nat.le_refl _) _
        have hrx : (wr.alloc (.cells (varCells t { nz with ca := cv, va := none, vn := 0, vc := 0 }) 60 (0, 0))).heap[wr.heap.size]? = some (.cells (varCells t { nz with ca := cv, va := none, vn := 0, vc := 0 }) 60 (0, 0)) := heap_alloc_new _ _
        have hfx : FreeSt w.heap.size (wr.alloc (.cells (varCells t { nz with ca := cv, va := none, vn := 0, vc := 0 }) 60 (0, 0))) (.slice none 0 0) (freeAt 0 t fz) := .inl ⟨rfl, rfl⟩
        have hnx : NodeOk w.heap.size (wr.alloc (.cells (varCells t { nz with ca := cv, va := none, vn := 0, vc := 0 }) 60 (0, 0))) wr.heap.size t { nz with ca := cv, va := none, vn := 0, vc := 0 } cv 0 fz := ⟨hrx, rfl, hfx, fun _ => rfl, hsw⟩
        clear hfx
        generalize (wr.alloc (.cells (varCells t { nz with ca := cv, va := none, vn := 0, vc := 0 }) 60 (0, 0))) = Wx at hbx hrx hnx ⊢
        obtain ⟨⟨k1, k2⟩, k3, k4⟩ := hX.out Wx _ hbx hnx hrx
        have HBX := Lib.hid hbx
        have HNX := Lib.hid hnx
        have K3 := Lib.hid k3
        have K4 := Lib.hid k4
        have hsx := hbx.size
        have hsy : w.heap.size ≤ (Wx.setCell ⟨O, q, none⟩ (.pointer (some ⟨wr.heap.size, 0, none⟩))).heap.size := by simp only [World.setCell]; simp; omega
        clear hbx hrx hnx k3 k4 hc1o c4o
        go_wp2_with fail
        refine (appendVar A _ wr.heap.size ev w.heap.size q (elts q vb) _ K3.out rfl K4.out hsy (by omega)).mono ?_
        rintro e Wz ⟨rfl, g, cap, z1, z2, z3⟩
        have HN := Lib.hid (HST2.out.step hlt HBX.out (by rw [HT.out, ← HMD.out]; exact HNX.out) HA.out rfl HOW.out z1 z2 z3)
        have HSK : Hid (StrKeep W0 Wz) := Lib.hid (HK0.out.trans ((StrKeep.below HBX.out).trans (fun k c2 fr hk => (HST2.out.stays HBX.out HA.out HOW.out z3 k c2 _ fr hk (.inr (.inr rfl))).trans hk)))
        clear z1 z2 z3
        go_wp2
        go_roundw
        case rel => exact ⟨q + 1, by omega, by go_num, Lib.hid ⟨_, _, HN.out, HSK.out⟩⟩
        case measure => simp [intOf]; omega
      · go_upto_region 25 with (fail)
        change Code.wp Tryf.prog _ _ _ ((wr.alloc (.cells (varCells t { nz with ca := cv, va := (some ⟨wr.heap.size + 1, 0, none⟩), vn := 0, vc := 0 }) 60 (0, 0))).alloc (.cells #[] 51 (0, 0)))
        have hbx : Below wr.heap.size wr ((wr.alloc (.cells (varCells t { nz with ca := cv, va := (some ⟨wr.heap.size + 1, 0, none⟩), vn := 0, vc := 0 }) 60 (0, 0))).alloc (.cells #[] 51 (0, 0))) := ((Below.refl _ wr).alloc (Nat.le_refl _) _).alloc (by simp) _
        have hrx : ((wr.alloc (.cells (varCells t { nz with ca := cv, va := (some ⟨wr.heap.size + 1, 0, none⟩), vn := 0, vc := 0 }) 60 (0, 0))).alloc (.cells #[] 51 (0, 0))).heap[wr.heap.size]? = some (.cells (varCells t { nz with ca := cv, va := (some ⟨wr.heap.size + 1, 0, none⟩), vn := 0, vc := 0 }) 60 (0, 0)) := (get_old (by simp)).trans (heap_alloc_new _ _)
        have hfx : FreeSt w.heap.size ((wr.alloc (.cells (varCells t { nz with ca := cv, va := (some ⟨wr.heap.size + 1, 0, none⟩), vn := 0, vc := 0 }) 60 (0, 0))).alloc (.cells #[] 51 (0, 0))) (.slice (some ⟨wr.heap.size + 1, 0, none⟩) 0 0) (freeAt 1 t fz) := .inr ⟨wr.heap.size + 1, 0, rfl, by omega, rfl, .inr ⟨wr.heap.size + 1, 0, #[], rfl, by omega, get_new (by simp), Nat.le_refl _, by unfold maxLen; omega, by simp, rfl⟩⟩
        have hnx : NodeOk w.heap.size ((wr.alloc (.cells (varCells t { nz with ca := cv, va := (some ⟨wr.heap.size + 1, 0, none⟩), vn := 0, vc := 0 }) 60 (0, 0))).alloc (.cells #[] 51 (0, 0))) wr.heap.size t { nz with ca := cv, va := (some ⟨wr.heap.size + 1, 0, none⟩), vn := 0, vc := 0 } cv 1 fz := ⟨hrx, rfl, hfx, fun h => absurd h (by decide), hsw⟩
        clear hfx
        generalize ((wr.alloc (.cells (varCells t { nz with ca := cv, va := (some ⟨wr.heap.size + 1, 0, none⟩), vn := 0, vc := 0 }) 60 (0, 0))).alloc (.cells #[] 51 (0, 0))) = Wx at hbx hrx hnx ⊢
        obtain ⟨⟨k1, k2⟩, k3, k4⟩ := hX.out Wx _ hbx hnx hrx
        have HBX := Lib.hid hbx
        have HNX := Lib.hid hnx
        have K3 := Lib.hid k3
        have K4 := Lib.hid k4
        have hsx := hbx.size
        have hsy : w.heap.size ≤ (Wx.setCell ⟨O, q, none⟩ (.pointer (some ⟨wr.heap.size, 0, none⟩))).heap.size := by simp only [World.setCell]; simp; omega
        clear hbx hrx hnx k3 k4 hc1o c4o
        go_wp2_with fail
        refine (appendVar A _ wr.heap.size ev w.heap.size q (elts q vb) _ K3.out rfl K4.out hsy (by omega)).mono ?_
        rintro e Wz ⟨rfl, g, cap, z1, z2, z3⟩
        have HN := Lib.hid (HST2.out.step hlt HBX.out (by rw [HT.out, ← HMD.out]; exact HNX.out) HA.out rfl HOW.out z1 z2 z3)
        have HSK : Hid (StrKeep W0 Wz) := Lib.hid (HK0.out.trans ((StrKeep.below HBX.out).trans (fun k c2 fr hk => (HST2.out.stays HBX.out HA.out HOW.out z3 k c2 _ fr hk (.inr (.inr rfl))).trans hk)))
        clear z1 z2 z3
        go_wp2
        go_roundw
        case rel => exact ⟨q + 1, by omega, by go_num, Lib.hid ⟨_, _, HN.out, HSK.out⟩⟩
        case measure => simp [intOf]; omega
      · go_upto_region 25 with (fail)
        change Code.wp Tryf.prog _ _ _ ((wr.alloc (.cells (varCells t { nz with ca := cv, va := (some ⟨wr.heap.size + 1, 0, none⟩), vn := 1, vc := 1 }) 60 (0, 0))).alloc (.cells #[.string t] 51 (0, 0)))
        have hbx : Below wr.heap.size wr ((wr.alloc (.cells (varCells t { nz with ca := cv, va := (some ⟨wr.heap.size + 1, 0, none⟩), vn := 1, vc := 1 }) 60 (0, 0))).alloc (.cells #[.string t] 51 (0, 0))) := ((Below.refl _ wr).alloc (Nat.le_refl _) _).alloc (by simp) _
        have hrx : ((wr.alloc (.cells (varCells t { nz with ca := cv, va := (some ⟨wr.heap.size + 1, 0, none⟩), vn := 1, vc := 1 }) 60 (0, 0))).alloc (.cells #[.string t] 51 (0, 0))).heap[wr.heap.size]? = some (.cells (varCells t { nz with ca := cv, va := (some ⟨wr.heap.size + 1, 0, none⟩), vn := 1, vc := 1 }) 60 (0, 0)) := (get_old (by simp)).trans (heap_alloc_new _ _)
        have hfx : FreeSt w.heap.size ((wr.alloc (.cells (varCells t { nz with ca := cv, va := (some ⟨wr.heap.size + 1, 0, none⟩), vn := 1, vc := 1 }) 60 (0, 0))).alloc (.cells #[.string t] 51 (0, 0))) (.slice (some ⟨wr.heap.size + 1, 0, none⟩) 1 1) (freeAt 2 t fz) := .inr ⟨wr.heap.size + 1, 1, rfl, by omega, rfl, .inr ⟨wr.heap.size + 1, 1, #[.string t], rfl, by omega, get_new (by simp), Nat.le_refl _, by unfold maxLen; omega, by simp, rfl⟩⟩
        have hnx : NodeOk w.heap.size ((wr.alloc (.cells (varCells t { nz with ca := cv, va := (some ⟨wr.heap.size + 1, 0, none⟩), vn := 1, vc := 1 }) 60 (0, 0))).alloc (.cells #[.string t] 51 (0, 0))) wr.heap.size t { nz with ca := cv, va := (some ⟨wr.heap.size + 1, 0, none⟩), vn := 1, vc := 1 } cv 2 fz := ⟨hrx, rfl, hfx, fun h => absurd h (by decide), hsw⟩
        clear hfx
        generalize ((wr.alloc (.cells (varCells t { nz with ca := cv, va := (some ⟨wr.heap.size + 1, 0, none⟩), vn := 1, vc := 1 }) 60 (0, 0))).alloc (.cells #[.string t] 51 (0, 0))) = Wx at hbx hrx hnx ⊢
        obtain ⟨⟨k1, k2⟩, k3, k4⟩ := hX.out Wx _ hbx hnx hrx
        have HBX := Lib.hid hbx
        have HNX := Lib.hid hnx
        have K3 := Lib.hid k3
        have K4 := Lib.hid k4
        have hsx := hbx.size
        have hsy : w.heap.size ≤ (Wx.setCell ⟨O, q, none⟩ (.pointer (some ⟨wr.heap.size, 0, none⟩))).heap.size := by simp only [World.setCell]; simp; omega
        clear hbx hrx hnx k3 k4 hc1o c4o
        go_wp2_with fail
        refine (appendVar A _ wr.heap.size ev w.heap.size q (elts q vb) _ K3.out rfl K4.out hsy (by omega)).mono ?_
        rintro e Wz ⟨rfl, g, cap, z1, z2, z3⟩
        have HN := Lib.hid (HST2.out.step hlt HBX.out (by rw [HT.out, ← HMD.out]; exact HNX.out) HA.out rfl HOW.out z1 z2 z3)
        have HSK : Hid (StrKeep W0 Wz) := Lib.hid (HK0.out.trans ((StrKeep.below HBX.out).trans (fun k c2 fr hk => (HST2.out.stays HBX.out HA.out HOW.out z3 k c2 _ fr hk (.inr (.inr rfl))).trans hk)))
        clear z1 z2 z3
        go_wp2
        go_roundw
        case rel => exact ⟨q + 1, by omega, by go_num, Lib.hid ⟨_, _, HN.out, HSK.out⟩⟩
        case measure => simp [intOf]; omega
      · go_upto_region 25 with (fail)
        change Code.wp Tryf.prog _ _ _ (wr.alloc (.cells (varCells t { nz with ca := cv, va := va, vn := m, vc := vc }) 60 (0, 0)))
        have hbx : Below wr.heap.size wr (wr.alloc (.cells (varCells t { nz with ca := cv, va := va, vn := m, vc := vc }) 60 (0, 0))) := (Below.refl _ wr).alloc (Nat.le_refl _) _
        have hrx : (wr.alloc (.cells (varCells t { nz with ca := cv, va := va, vn := m, vc := vc }) 60 (0, 0))).heap[wr.heap.size]? = some (.cells (varCells t { nz with ca := cv, va := va, vn := m, vc := vc }) 60 (0, 0)) := heap_alloc_new _ _
        have hfx : FreeSt w.heap.size (wr.alloc (.cells (varCells t { nz with ca := cv, va := va, vn := m, vc := vc }) 60 (0, 0))) (.slice va m vc) (freeAt 3 t fz) := HST2.out.free.keep (fun k e => by
          obtain ⟨c2, f2, hc2⟩ := HST2.out.free.kind e
          exact hbx.block k (Array.getElem?_eq_some_iff.1 hc2).1)
        have hnx : NodeOk w.heap.size (wr.alloc (.cells (varCells t { nz with ca := cv, va := va, vn := m, vc := vc }) 60 (0, 0))) wr.heap.size t { nz with ca := cv, va := va, vn := m, vc := vc } cv 3 fz := ⟨hrx, rfl, hfx, fun h => absurd h (by decide), hsw⟩
        clear hfx
        generalize (wr.alloc (.cells (varCells t { nz with ca := cv, va := va, vn := m, vc := vc }) 60 (0, 0))) = Wx at hbx hrx hnx ⊢
        obtain ⟨⟨k1, k2⟩, k3, k4⟩ := hX.out Wx _ hbx hnx hrx
        have HBX := Lib.hid hbx
        have HNX := Lib.hid hnx
        have K3 := Lib.hid k3
        have K4 := Lib.hid k4
        have hsx := hbx.size
        have hsy : w.heap.size ≤ (Wx.setCell ⟨O, q, none⟩ (.pointer (some ⟨wr.heap.size, 0, none⟩))).heap.size := by simp only [World.setCell]; simp; omega
        clear hbx hrx hnx k3 k4 hc1o c4o
        go_wp2_with fail
        refine (appendVar A _ wr.heap.size ev w.heap.size q (elts q vb) _ K3.out rfl K4.out hsy (by omega)).mono ?_
        rintro e Wz ⟨rfl, g, cap, z1, z2, z3⟩
        have HN := Lib.hid (HST2.out.step hlt HBX.out (by rw [HT.out, ← HMD.out]; exact HNX.out) HA.out rfl HOW.out z1 z2 z3)
        have HSK : Hid (StrKeep W0 Wz) := Lib.hid (HK0.out.trans ((StrKeep.below HBX.out).trans (fun k c2 fr hk => (HST2.out.stays HBX.out HA.out HOW.out z3 k c2 _ fr hk (.inr (.inr rfl))).trans hk)))
        clear z1 z2 z3
        go_wp2
        go_roundw
        case rel => exact ⟨q + 1, by omega, by go_num, Lib.hid ⟨_, _, HN.out, HSK.out⟩⟩
        case measure => simp [intOf]; omega
    · obtain rfl : n = q := by omega
      go_wp2
      obtain ⟨vb, nb, hst, hk0⟩ := HS.out
      refine bodyPost_ret (v := .tuple #[.pointer (some ⟨A, 0, none⟩), .slice (some ⟨O, 0, none⟩) n n]) (by simp [results, Tryf.results11, go_sem]) rfl ?_
      exact ⟨A, O, va, vc, vb, nb, rfl, hst, HNL.out, hk0⟩

end Arr
end Go.Proofs.YtegabjiaekfmbaaFmt
