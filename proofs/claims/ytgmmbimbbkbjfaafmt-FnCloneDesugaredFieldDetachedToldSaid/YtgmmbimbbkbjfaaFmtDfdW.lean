/-
  The walk of FnCloneDesugaredFieldDetached.
-/
import Derived.Test.YtgmmbimbbkbjfaaFmtDfdA
import Derived.Laws.Concat
import Derived.BigRegion
namespace Go.Proofs.YtgmmbimbbkbjfaaFmt.fnCloneDesugaredFieldDetached
open Go Go.RowKit

def n0 : NBase := ⟨none, 0, 0, none, none, 0, 0, none, ⟨#[]⟩, 0, 0, 0, 0⟩
def nA (a : Option Addr) (n c : Nat) : NBase := ⟨none, 0, 0, none, a, n, c, none, ⟨#[]⟩, 0, 0, 0, 0⟩
theorem n0_ok (w : World) : NBok w n0 [] none := ⟨.isNil, rfl, by decide, rfl⟩
theorem strs_up {w w' : World} {B B2 : Nat} {v : Value} {zs : List ByteArray} (h : StrsAt w B v zs) (hb : Below B w w') (hB : B ≤ B2) : StrsAt w' B2 v zs :=
  strs_keep (X := w) h hB (fun p z hlt hp => (hb.cell hlt).trans hp) (Below.refl _ _)

theorem NBok.ofBare {B : Nat} {w : World} {n n' : NBase} (h : NBnew B w n n' [] none) (w' : World) : NBok w' n' [] none := by
  obtain ⟨_, ⟨g, cap, hv, _, _⟩, hc⟩ := h
  injection hv with h1 h2 h3
  exact ⟨by rw [h1, h2]; exact .isBare _ _, h2.symm, by rw [h2]; decide, hc⟩
theorem nb_drewN {w : World} {n : NBase} {zs : List ByteArray} {c : Option ByteArray} (h : NBok w n zs c) (m : Nat) : NBok (w.drewN m) n zs c := ⟨h.fv.drewN m, h.len, h.le, h.ctx⟩
theorem NBok.ofRow {B : Nat} {w' : World} {n' : NBase} {g cap k : Nat} {zs : List ByteArray} (hv : Value.slice n'.va n'.vn n'.vc = .slice (some ⟨g, 0, none⟩) k cap) (ho : w'.ownsRow B 41 1 (.slice (some ⟨g, 0, none⟩) k cap) k (zs.map Value.string)) (hl : zs.length = k) (hk : k ≤ 1048576) (hc : n'.ca = none) : NBok w' n' zs none := by
  subst hl
  refine ⟨?_, by injection hv with _ h2 _; exact h2.symm, by injection hv with _ h2 _; rw [h2]; exact hk, hc⟩
  rw [hv]
  obtain ⟨c, fz, hb⟩ := Lib.ownsRow_kind ho g rfl
  refine .isAt g 0 cap zs (Array.getElem?_eq_some_iff.1 hb).1 (by unfold maxLen; omega) (fun i hi => ?_)
  rw [Nat.zero_add, ho.cellAt i (by simpa using hi)]
  simp [List.getElem?_eq_getElem hi]
def rest : List Value := [.pointer none, .string ⟨#[]⟩, .int .i64 0, .int .i64 0, .int .i64 0, .int .i64 0, .int .i64 0, .bool false]
/-- The world after the variable and the field are made. -/
structure DtW (X W : World) (vb : Nat) (id : ByteArray) (v0 v1 : Value) : Prop where
  size : W.heap.size = vb + 2
  var : W.heap[vb]? = some (.cells (varCells id n0) 43 (0, 0))
  df : W.heap[vb + 1]? = some (.cells ⟨v0 :: v1 :: rest⟩ 49 (0, 0))
  below : Below vb X W
theorem DtW.set0 {X W : World} {vb : Nat} {id : ByteArray} {v0 v1 : Value} (h : DtW X W vb id v0 v1) (v : Value) : DtW X (W.setCell ⟨vb + 1, 0, none⟩ v) vb id v v1 :=
  ⟨by rw [← h.size]; simp [World.setCell], (Below.heap_setCell W _ _ _ (by show _ ≠ vb + 1; omega)).trans h.var, (Lib.heap_setCell_same h.df _).trans (by simp), h.below.setCell (by show vb ≤ vb + 1; omega) _⟩
theorem DtW.set1 {X W : World} {vb : Nat} {id : ByteArray} {v0 v1 : Value} (h : DtW X W vb id v0 v1) (v : Value) : DtW X (W.setCell ⟨vb + 1, 1, none⟩ v) vb id v0 v :=
  ⟨by rw [← h.size]; simp [World.setCell], (Below.heap_setCell W _ _ _ (by show _ ≠ vb + 1; omega)).trans h.var, (Lib.heap_setCell_same h.df _).trans (by simp), h.below.setCell (by show vb ≤ vb + 1; omega) _⟩

set_option maxHeartbeats 3200000 in
set_option maxRecDepth 100000 in
theorem walk_z (name id : ByteArray) (a : Option Addr) (n c : Nat) (zs : List ByteArray) (w : World) (hi : StrsAt w w.heap.size (.slice a n c) zs) (hl : zs.length = n) (hn : n ≤ maxLen) (h1 : name.size ≤ maxLen) (h2 : id.size ≤ maxLen) (hz : ∀ i, i < n → (zs.getD i ByteArray.empty).size ≤ maxLen) (hn0 : n = 0) :
    Calls Tryf.prog 6 #[.string name, .string id, .slice a n c] w fun e w' => e = .returned (.bool true) ∧ Below w.heap.size w w' := by
  have HI := Lib.hid hi
  have HL := Lib.hid hl
  have HZ := Lib.hid hz
  have HN := Lib.hid (show name.size ≤ maxLen ∧ id.size ≤ maxLen ∧ n ≤ maxLen from ⟨h1, h2, hn⟩)
  have HN0 := Lib.hid hn0
  clear hn0
  clear hi hl hz hn h1 h2
  go_enter Tryf.func6, Tryf.ntmps6
  go_wp2_with fail
  refine (bytesAt name id a n c zs w HI.out HL.out HN.out.2.2 HN.out.1 HN.out.2.1 HZ.out).mono ?_
  rintro e w' ⟨⟨b, rfl, hb⟩, rfl⟩
  cases b with
  | false =>
    go_wp2
    go_ret
    exact ⟨rfl, Below.refl _ _⟩
  | true =>
  obtain ⟨hsum, hzz⟩ := hb rfl
  have HZZ := Lib.hid hzz
  clear hb hzz HZ HN
  have q1 : decide (1048576 < name.size) = false := decide_eq_false (by omega)
  have q2 : decide (1048576 < id.size) = false := decide_eq_false (by omega)
  by_cases hbig : 65536 < n
  · go_wp2
    go_ret
    exact ⟨rfl, Below.refl _ _⟩
  have q0 : decide ((0 : Int) < (n : Int)) = false := decide_eq_false (by have := HN0.out; omega)
  have hn1 : ¬ 0 < n := by have := HN0.out; omega
  have hn2 : ¬ (0 : Int) < (n : Int) := by omega
  go_wp2_with fail
  refine (strBytes a n c zs w HI.out HL.out (by omega) HZZ.out).mono ?_
  rintro e w' ⟨⟨S, rfl, hS, _⟩, rfl⟩
  by_cases hS3 : 1048576 < name.size + id.size + S
  · go_wp2
    go_ret
    exact ⟨rfl, Below.refl _ _⟩
  go_wp2_with fail
  generalize hW0 : w.alloc (.cells #[.string name, .string ⟨#[]⟩, .string ⟨#[]⟩, .slice none 0 0, .pointer none, .slice none 0 0, .pointer none, .string ⟨#[]⟩, .int .i64 0, .int .i64 0, .int .i64 0, .int .i64 0, .int .i64 0] 39 (0, 0)) = W0
  have bW0 : Below w.heap.size w W0 := by rw [← hW0]; exact (Below.refl _ w).alloc (Nat.le_refl _) _
  have sW0 : W0.heap.size = w.heap.size + 1 := by rw [← hW0]; simp
  have lW0 : W0.heap[w.heap.size]? = some (.cells (litCells name ⟨#[]⟩ ⟨#[]⟩ 0 n0) 39 (0, 0)) := by rw [← hW0]; exact get_new rfl
  clear hW0
  refine (mkIdents a n c zs W0 (strs_up HI.out bW0 (by omega)) HL.out (by omega)).mono ?_
  rintro e w1 ⟨⟨a', c', rfl, hs1, hno⟩, hb1⟩
  have hz1 := hb1.size
  have lw1 : w1.heap[w.heap.size]? = some (.cells (litCells name ⟨#[]⟩ ⟨#[]⟩ 0 n0) 39 (0, 0)) := (hb1.block _ (by omega)).trans lW0
  have k5 : w1.cell? ⟨w.heap.size, 5, none⟩ = some (.slice none 0 0) := (cell_of_row _ _ 5 _ _ _ lw1).trans rfl
  have z5 : w1.frozen? ⟨w.heap.size, 5, none⟩ = false := frozen_of lw1 5
  have HLW := Lib.hid lw1
  have HS1 := Lib.hid hs1
  have HB1 := Lib.hid (bW0.trans (hb1.mono (by omega)))
  have hgt : w.heap.size < w1.heap.size := by omega
  clear lw1 hs1 hno hb1 bW0 lW0 hz1 sW0
  go_wp2_with fail
  generalize hX : w1.setCell ⟨w.heap.size, 5, none⟩ (.slice a' n c') = X
  have sX : X.heap.size = w1.heap.size := by rw [← hX]; simp [World.setCell]
  have lX : X.heap[w.heap.size]? = some (.cells (litCells name ⟨#[]⟩ ⟨#[]⟩ 0 (nA a' n c')) 39 (0, 0)) := by rw [← hX]; exact (Lib.heap_setCell_same HLW.out _).trans (by simp [litCells, n0, nA])
  have iX : StrsAt X w1.heap.size (.slice a' n c') zs := strs_keep (X := w1) HS1.out (Nat.le_refl _) (fun p z hlt hp => by rw [← hX, World.cell?_setCell_other _ _ _ _ (fun e => by rw [← e, k5] at hp; cases hp)]; exact hp) (Below.refl _ _)
  have bX : Below w.heap.size w X := by rw [← hX]; exact HB1.out.setCell (Nat.le_refl _) _
  clear hX HLW HS1 HB1 k5 z5
  generalize w1.heap.size = vb at sX iX hgt ⊢
  clear w1
  generalize hW2 : (X.alloc (.cells #[.string id, .slice none 0 0, .pointer none, .slice none 0 0, .pointer none, .string ⟨#[]⟩, .int .i64 0, .int .i64 0, .int .i64 0, .int .i64 0] 43 (0, 0))).alloc
    (.cells #[.nilIface, .nilIface, .pointer none, .string ⟨#[]⟩, .int .i64 0, .int .i64 0, .int .i64 0, .int .i64 0, .int .i64 0, .bool false] 49 (0, 0)) = W2
  have D2 : DtW X W2 vb id .nilIface .nilIface := by
    subst hW2
    refine ⟨by simp; omega, ?_, ?_, ((Below.refl _ X).alloc (by omega) _).alloc (by simp; omega) _⟩
    · exact (get_old (by simp; omega)).trans (get_new (by omega))
    · exact get_new (by simp; omega)
  clear hW2
  refine (setName (vb + 1) w.heap.size .nilIface W2 ((cell_of_row _ _ 0 _ _ _ D2.df).trans rfl) (frozen_of D2.df 0)).mono ?_
  rintro e W3 ⟨rfl, hW3⟩
  have D3 := D2.set0 (.iface 28 (.pointer (some ⟨w.heap.size, 0, none⟩)))
  rw [hW3] at D3
  have HD3 := Lib.hid D3
  have LX := Lib.hid lX
  have IX := Lib.hid iX
  have BX := Lib.hid bX
  clear hW3 D2 D3 lX iX bX
  go_wp2_with fail
  have D3 := HD3.out
  refine (setBody (vb + 1) vb .nilIface W3 ((cell_of_row _ _ 1 _ _ _ D3.df).trans rfl) (frozen_of D3.df 1)).mono ?_
  rintro e W4 ⟨rfl, hW4⟩
  have D4 := D3.set1 (.iface 40 (.pointer (some ⟨vb, 0, none⟩)))
  rw [hW4] at D4
  have HD4 := Lib.hid D4
  clear hW4 D3 D4 HD3
  go_wp2_with fail
  have D4 := HD4.out
  refine (zzCloneDF (vb + 1) _ _ _ (.lit name ⟨#[]⟩ ⟨#[]⟩ 0 (nA a' n c') zs none) (.var id n0 [] none) W4 D4.df ⟨_, rfl, (D4.below.block _ (by omega)).trans LX.out, ⟨strs_up IX.out D4.below (by have := D4.size; omega), HL.out, by show n ≤ 1048576; omega, rfl⟩⟩ ⟨_, rfl, D4.var, n0_ok _⟩).mono ?_
  rintro e W5 ⟨rfl, v0, v1, hdf, l0, l1, hk⟩
  have s4 := D4.size
  have s5 := hk.size
  obtain ⟨lb, n1, hge1, rfl, hnl, ⟨he1, ⟨g, cap, hv1, hg, ho⟩, hcx1⟩⟩ := l0
  obtain ⟨ub, n2, hge2, rfl, hnv, hn2⟩ := l1
  rw [HL.out] at hv1 ho
  rw [hv1] at ho
  have b5 : Below vb X W5 := D4.below.trans (hk.below (fun _ e => by omega) (by omega))
  have v5 : W5.heap[vb]? = _ := (hk.block vb (by omega) (by omega)).trans D4.var
  have a0 : W5.cell? ⟨lb, 0, none⟩ = some (.string name) := (cell_of_row _ _ 0 _ _ _ hnl).trans rfl
  have a5 : W5.cell? ⟨lb, 5, none⟩ = some (.slice (some ⟨g, 0, none⟩) n cap) := ((cell_of_row _ _ 5 _ _ _ hnl).trans rfl).trans (congrArg some hv1)
  have t0 : W5.frozen? ⟨lb, 0, none⟩ = false := frozen_of hnl 0
  have b0 : W5.cell? ⟨ub, 0, none⟩ = some (.string id) := (cell_of_row _ _ 0 _ _ _ hnv).trans rfl
  have t1 : W5.frozen? ⟨ub, 0, none⟩ = false := frozen_of hnv 0
  have f0 : W5.cell? ⟨vb + 1, 0, none⟩ = some (.iface 28 (.pointer (some ⟨lb, 0, none⟩))) := (cell_of_row _ _ 0 _ _ _ hdf).trans rfl
  have f1 : W5.cell? ⟨vb + 1, 1, none⟩ = some (.iface 40 (.pointer (some ⟨ub, 0, none⟩))) := (cell_of_row _ _ 1 _ _ _ hdf).trans rfl
  have nlu : lb ≠ ub := fun e => by
    rw [e, hnv] at hnl
    cases hnl
  have nlg : lb ≠ g := fun e => by
    obtain ⟨cg, fg, hcg⟩ := Lib.ownsRow_kind ho g rfl
    rw [← e, hnl] at hcg
    cases hcg
  have nug : ub ≠ g := fun e => by
    obtain ⟨cg, fg, hcg⟩ := Lib.ownsRow_kind ho g rfl
    rw [← e, hnv] at hcg
    cases hcg
  have HNL := Lib.hid hnl
  have HNV := Lib.hid hnv
  have HDF := Lib.hid hdf
  have HO := Lib.hid ho
  have HE1 := Lib.hid he1
  have HV1 := Lib.hid hv1
  have HN2 := Lib.hid hn2
  have HB5 := Lib.hid b5
  have HV5 := Lib.hid v5
  have HCX := Lib.hid hcx1
  have HGE := Lib.hid (show vb + 2 ≤ lb ∧ vb + 2 ≤ ub ∧ vb + 2 ≤ g ∧ vb + 2 ≤ W5.heap.size from ⟨by omega, by omega, by omega, by omega⟩)
  clear hnl hnv hdf ho he1 hv1 hn2 b5 v5 hk HD4 D4 hcx1
  go_wp2_with fail
  have KB : ∀ i, i < vb + 2 → ((W5.setCell ⟨lb, 0, none⟩ (.string (name ++ ⟨#[33]⟩))).setCell ⟨ub, 0, none⟩ (.string (id ++ ⟨#[33]⟩))).heap[i]? = W5.heap[i]? := fun i hi => by
    have hge := HGE.out
    rw [Below.heap_setCell _ _ _ _ (show i ≠ ub by omega), Below.heap_setCell _ _ _ _ (show i ≠ lb by omega)]
  have KC : ∀ (q : Addr) (v : Value), q.block < vb + 2 → W5.cell? q = some v → ((W5.setCell ⟨lb, 0, none⟩ (.string (name ++ ⟨#[33]⟩))).setCell ⟨ub, 0, none⟩ (.string (id ++ ⟨#[33]⟩))).cell? q = some v := fun q v hq hv => (World.cell?_of_block (KB q.block hq)).trans hv
  have lit5 : W5.heap[w.heap.size]? = _ := (HB5.out.block _ hgt).trans LX.out
  have m0 := KC ⟨w.heap.size, 0, none⟩ (.string name) (by show w.heap.size < vb + 2; omega) ((cell_of_row _ _ 0 _ _ _ lit5).trans rfl)
  have m5 := KC ⟨w.heap.size, 5, none⟩ (.slice a' n c') (by show w.heap.size < vb + 2; omega) ((cell_of_row _ _ 5 _ _ _ lit5).trans rfl)
  have mv := KC ⟨vb, 0, none⟩ (.string id) (by show vb < vb + 2; omega) ((cell_of_row _ _ 0 _ _ _ HV5.out).trans rfl)
  clear lit5 KC
  have HKB := Lib.hid KB
  clear KB
  refine (getName (vb + 1) lb W5 f0).mono ?_
  rintro e w6 ⟨rfl, rfl⟩
  go_wp2_with fail
  refine (getBody (vb + 1) ub _ f1).mono ?_
  rintro e w6 ⟨rfl, rfl⟩
  go_wp2_with fail
  have KB8 : ∀ i, i < vb + 2 → (((W5.setCell ⟨lb, 0, none⟩ (.string (name ++ ⟨#[33]⟩))).setCell ⟨ub, 0, none⟩ (.string (id ++ ⟨#[33]⟩)))).heap[i]? = W5.heap[i]? := fun i hi => HKB.out i hi
  have BL8 : Below vb X (((W5.setCell ⟨lb, 0, none⟩ (.string (name ++ ⟨#[33]⟩))).setCell ⟨ub, 0, none⟩ (.string (id ++ ⟨#[33]⟩)))) := by
    have hge := HGE.out
    exact HB5.out.trans (by first | exact ((((Below.refl vb W5).setCell (by show vb ≤ lb; omega) _).setCell (by show vb ≤ ub; omega) _).setCell (by show vb ≤ g; omega) _).drew | exact (((Below.refl vb W5).setCell (by show vb ≤ lb; omega) _).setCell (by show vb ≤ ub; omega) _))
  have NL8 : (((W5.setCell ⟨lb, 0, none⟩ (.string (name ++ ⟨#[33]⟩))).setCell ⟨ub, 0, none⟩ (.string (id ++ ⟨#[33]⟩)))).heap[lb]? = some (.cells (litCells (name ++ ⟨#[33]⟩) ⟨#[]⟩ ⟨#[]⟩ 0 n1) 39 (0, 0)) := by
    exact (Below.heap_setCell _ _ _ _ (show lb ≠ ub by assumption)).trans ((Lib.heap_setCell_same HNL.out _).trans (by simp [litCells]))
  have NV8 : (((W5.setCell ⟨lb, 0, none⟩ (.string (name ++ ⟨#[33]⟩))).setCell ⟨ub, 0, none⟩ (.string (id ++ ⟨#[33]⟩)))).heap[ub]? = some (.cells (varCells (id ++ ⟨#[33]⟩) n2) 43 (0, 0)) := by
    exact (Lib.heap_setCell_same ((Below.heap_setCell _ _ _ _ (show ub ≠ lb from fun e => nlu e.symm)).trans HNV.out) _).trans (by simp [varCells])
  have RW7 : (((W5.setCell ⟨lb, 0, none⟩ (.string (name ++ ⟨#[33]⟩))).setCell ⟨ub, 0, none⟩ (.string (id ++ ⟨#[33]⟩)))).ownsRow W4.heap.size 41 1 (.slice (some ⟨g, 0, none⟩) n cap) n (zs.map Value.string) := ownsRow_same HO.out (fun g' hg' => by
    obtain rfl : g = g' := by simpa [Value.ownBlock] using hg'
    rw [Below.heap_setCell _ _ _ _ (show g ≠ ub from fun e => nug e.symm), Below.heap_setCell _ _ _ _ (show g ≠ lb from fun e => nlg e.symm)])
  have R8 := RW7
  have SZ8 : (((W5.setCell ⟨lb, 0, none⟩ (.string (name ++ ⟨#[33]⟩))).setCell ⟨ub, 0, none⟩ (.string (id ++ ⟨#[33]⟩)))).heap.size = W5.heap.size := by
    simp [World.setCell]
  have IM := Lib.hid (show StrsAt (((W5.setCell ⟨lb, 0, none⟩ (.string (name ++ ⟨#[33]⟩))).setCell ⟨ub, 0, none⟩ (.string (id ++ ⟨#[33]⟩)))) vb (.slice a' n c') zs from strs_up IX.out BL8 (Nat.le_refl _))
  have IW := Lib.hid (strs_up HI.out (BX.out.trans (BL8.mono (by omega))) (Nat.le_refl _))
  have OK1 := NBok.ofRow HV1.out R8 HL.out (by omega) HCX.out
  have OK2 := NBok.ofBare HN2.out (((W5.setCell ⟨lb, 0, none⟩ (.string (name ++ ⟨#[33]⟩))).setCell ⟨ub, 0, none⟩ (.string (id ++ ⟨#[33]⟩))))
  generalize ((W5.setCell ⟨lb, 0, none⟩ (.string (name ++ ⟨#[33]⟩))).setCell ⟨ub, 0, none⟩ (.string (id ++ ⟨#[33]⟩))) = W8 at KB8 BL8 NL8 NV8 R8 SZ8 IM IW OK1 OK2 ⊢
  have HKB8 := Lib.hid KB8
  have HBL8 := Lib.hid BL8
  have HNL8 := Lib.hid NL8
  have HNV8 := Lib.hid NV8
  have HR8 := Lib.hid R8
  have HSZ8 := Lib.hid SZ8
  have HOK1 := Lib.hid OK1
  have HOK2 := Lib.hid OK2
  clear KB8 BL8 NL8 NV8 R8 RW7 SZ8 OK1 OK2
  refine (identsMatch a' a n c' c vb w.heap.size zs _ IM.out IW.out HL.out (by omega)).mono ?_
  rintro e w9 ⟨rfl, m, rfl⟩
  go_wp2_with fail
  refine (zzCloneDF (vb + 1) _ _ _ (.lit (name ++ ⟨#[33]⟩) ⟨#[]⟩ ⟨#[]⟩ 0 n1 zs none) (.var (id ++ ⟨#[33]⟩) n2 [] none) _ (by exact (HKB8.out (vb + 1) (by omega)).trans HDF.out) (by exact ⟨_, rfl, HNL8.out, nb_drewN HOK1.out _⟩) (by exact ⟨_, rfl, HNV8.out, nb_drewN HOK2.out _⟩)).mono ?_
  rintro e W10 ⟨rfl, v0', v1', hdf2, l02, l12, hk2⟩
  have ge := HGE.out
  have s8 := HSZ8.out
  have s10 := hk2.size
  have lb8 := (Array.getElem?_eq_some_iff.1 HNL8.out).1
  have ub8 := (Array.getElem?_eq_some_iff.1 HNV8.out).1
  obtain ⟨lb2, m1, hge3, rfl, hnl2, ⟨_, ⟨g3, cap3, hv3, hg3, ho3⟩, _⟩⟩ := l02
  obtain ⟨ub2, m2, hge4, rfl, hnv2, _⟩ := l12
  have hz3 : zs.length = n := HL.out
  rw [hz3] at hv3 ho3
  rw [hv3] at ho3
  change W8.heap.size ≤ lb2 at hge3
  change W8.heap.size ≤ ub2 at hge4
  have ol : W10.heap[lb]? = _ := (hk2.block lb lb8 (by omega)).trans HNL8.out
  have ou : W10.heap[ub]? = _ := (hk2.block ub ub8 (by omega)).trans HNV8.out
  have bel : Below vb X W10 := HBL8.out.trans ((drewN_below (Below.refl _ _) _).trans (hk2.below (fun _ e => by omega) (by show vb ≤ W8.heap.size; omega)))
  have pe1 : ∀ m, (binOp .eql 28 (.pointer (some ⟨lb2, 0, none⟩)) (.pointer (some ⟨lb, 0, none⟩))).run Tryf.prog (W10.drewN m) = .ok (.bool false) (W10.drewN m) := eq_heads (n := 13) Tryf.underlying28 (by kernel_rfl) (by decide) (by omega) hnl2 ol
  have pe2 : ∀ m, (binOp .eql 40 (.pointer (some ⟨ub2, 0, none⟩)) (.pointer (some ⟨ub, 0, none⟩))).run Tryf.prog (W10.drewN m) = .ok (.bool false) (W10.drewN m) := eq_heads (n := 10) Tryf.underlying40 (by kernel_rfl) (by decide) (by omega) hnv2 ou
  have pe10 : (binOp .eql 28 (.pointer (some ⟨lb2, 0, none⟩)) (.pointer (some ⟨lb, 0, none⟩))).run Tryf.prog W10 = .ok (.bool false) W10 := pe1 0
  have pe20 : (binOp .eql 40 (.pointer (some ⟨ub2, 0, none⟩)) (.pointer (some ⟨ub, 0, none⟩))).run Tryf.prog W10 = .ok (.bool false) W10 := pe2 0
  have r0 : W10.cell? ⟨lb2, 0, none⟩ = some (.string (name ++ ⟨#[33]⟩)) := (cell_of_row _ _ 0 _ _ _ hnl2).trans rfl
  have r5 : W10.cell? ⟨lb2, 5, none⟩ = some (.slice (some ⟨g3, 0, none⟩) n cap3) := ((cell_of_row _ _ 5 _ _ _ hnl2).trans rfl).trans (congrArg some hv3)
  have u0 : W10.cell? ⟨ub2, 0, none⟩ = some (.string (id ++ ⟨#[33]⟩)) := (cell_of_row _ _ 0 _ _ _ hnv2).trans rfl
  have f0' : W10.cell? ⟨vb + 1, 0, none⟩ = some (.iface 28 (.pointer (some ⟨lb2, 0, none⟩))) := (cell_of_row _ _ 0 _ _ _ hdf2).trans rfl
  have f1' : W10.cell? ⟨vb + 1, 1, none⟩ = some (.iface 40 (.pointer (some ⟨ub2, 0, none⟩))) := (cell_of_row _ _ 1 _ _ _ hdf2).trans rfl
  have HBL := Lib.hid (BX.out.trans (bel.mono (by omega)))
  clear hnl2 hnv2 hdf2 ho3 hv3 hk2 ol ou bel HSZ8 HNL8 HNV8 HR8 HOK1 HOK2 HKB8 HBL8
  go_wp2_with fail
  refine (getName (vb + 1) lb2 W10 f0').mono ?_
  rintro e w11 ⟨rfl, rfl⟩
  go_wp2_with fail
  refine (getBody (vb + 1) ub2 _ f1').mono ?_
  rintro e w12 ⟨rfl, rfl⟩
  go_wp2_with fail
  go_quiet (fail)
  go_wp2
  go_ret
  exact ⟨rfl, drewN_below HBL.out _⟩

set_option maxHeartbeats 3200000 in
set_option maxRecDepth 100000 in
theorem walk_p (name id : ByteArray) (a : Option Addr) (n c : Nat) (zs : List ByteArray) (w : World) (hi : StrsAt w w.heap.size (.slice a n c) zs) (hl : zs.length = n) (hn : n ≤ maxLen) (h1 : name.size ≤ maxLen) (h2 : id.size ≤ maxLen) (hz : ∀ i, i < n → (zs.getD i ByteArray.empty).size ≤ maxLen) (hn0 : 0 < n) :
    Calls Tryf.prog 6 #[.string name, .string id, .slice a n c] w fun e w' => e = .returned (.bool true) ∧ Below w.heap.size w w' := by
  have HI := Lib.hid hi
  have HL := Lib.hid hl
  have HZ := Lib.hid hz
  have HN := Lib.hid (show name.size ≤ maxLen ∧ id.size ≤ maxLen ∧ n ≤ maxLen from ⟨h1, h2, hn⟩)
  clear hi hl hz hn h1 h2
  go_enter Tryf.func6, Tryf.ntmps6
  go_wp2_with fail
  refine (bytesAt name id a n c zs w HI.out HL.out HN.out.2.2 HN.out.1 HN.out.2.1 HZ.out).mono ?_
  rintro e w' ⟨⟨b, rfl, hb⟩, rfl⟩
  cases b with
  | false =>
    go_wp2
    go_ret
    exact ⟨rfl, Below.refl _ _⟩
  | true =>
  obtain ⟨hsum, hzz⟩ := hb rfl
  have HZZ := Lib.hid hzz
  clear hb hzz HZ HN
  have q1 : decide (1048576 < name.size) = false := decide_eq_false (by omega)
  have q2 : decide (1048576 < id.size) = false := decide_eq_false (by omega)
  by_cases hbig : 65536 < n
  · go_wp2
    go_ret
    exact ⟨rfl, Below.refl _ _⟩
  go_wp2_with fail
  refine (strBytes a n c zs w HI.out HL.out (by omega) HZZ.out).mono ?_
  rintro e w' ⟨⟨S, rfl, hS, _⟩, rfl⟩
  by_cases hS3 : 1048576 < name.size + id.size + S
  · go_wp2
    go_ret
    exact ⟨rfl, Below.refl _ _⟩
  go_wp2_with fail
  generalize hW0 : w.alloc (.cells #[.string name, .string ⟨#[]⟩, .string ⟨#[]⟩, .slice none 0 0, .pointer none, .slice none 0 0, .pointer none, .string ⟨#[]⟩, .int .i64 0, .int .i64 0, .int .i64 0, .int .i64 0, .int .i64 0] 39 (0, 0)) = W0
  have bW0 : Below w.heap.size w W0 := by rw [← hW0]; exact (Below.refl _ w).alloc (Nat.le_refl _) _
  have sW0 : W0.heap.size = w.heap.size + 1 := by rw [← hW0]; simp
  have lW0 : W0.heap[w.heap.size]? = some (.cells (litCells name ⟨#[]⟩ ⟨#[]⟩ 0 n0) 39 (0, 0)) := by rw [← hW0]; exact get_new rfl
  clear hW0
  refine (mkIdents a n c zs W0 (strs_up HI.out bW0 (by omega)) HL.out (by omega)).mono ?_
  rintro e w1 ⟨⟨a', c', rfl, hs1, hno⟩, hb1⟩
  have hz1 := hb1.size
  have lw1 : w1.heap[w.heap.size]? = some (.cells (litCells name ⟨#[]⟩ ⟨#[]⟩ 0 n0) 39 (0, 0)) := (hb1.block _ (by omega)).trans lW0
  have k5 : w1.cell? ⟨w.heap.size, 5, none⟩ = some (.slice none 0 0) := (cell_of_row _ _ 5 _ _ _ lw1).trans rfl
  have z5 : w1.frozen? ⟨w.heap.size, 5, none⟩ = false := frozen_of lw1 5
  have HLW := Lib.hid lw1
  have HS1 := Lib.hid hs1
  have HB1 := Lib.hid (bW0.trans (hb1.mono (by omega)))
  have hgt : w.heap.size < w1.heap.size := by omega
  clear lw1 hs1 hno hb1 bW0 lW0 hz1 sW0
  go_wp2_with fail
  generalize hX : w1.setCell ⟨w.heap.size, 5, none⟩ (.slice a' n c') = X
  have sX : X.heap.size = w1.heap.size := by rw [← hX]; simp [World.setCell]
  have lX : X.heap[w.heap.size]? = some (.cells (litCells name ⟨#[]⟩ ⟨#[]⟩ 0 (nA a' n c')) 39 (0, 0)) := by rw [← hX]; exact (Lib.heap_setCell_same HLW.out _).trans (by simp [litCells, n0, nA])
  have iX : StrsAt X w1.heap.size (.slice a' n c') zs := strs_keep (X := w1) HS1.out (Nat.le_refl _) (fun p z hlt hp => by rw [← hX, World.cell?_setCell_other _ _ _ _ (fun e => by rw [← e, k5] at hp; cases hp)]; exact hp) (Below.refl _ _)
  have bX : Below w.heap.size w X := by rw [← hX]; exact HB1.out.setCell (Nat.le_refl _) _
  clear hX HLW HS1 HB1 k5 z5
  generalize w1.heap.size = vb at sX iX hgt ⊢
  clear w1
  generalize hW2 : (X.alloc (.cells #[.string id, .slice none 0 0, .pointer none, .slice none 0 0, .pointer none, .string ⟨#[]⟩, .int .i64 0, .int .i64 0, .int .i64 0, .int .i64 0] 43 (0, 0))).alloc
    (.cells #[.nilIface, .nilIface, .pointer none, .string ⟨#[]⟩, .int .i64 0, .int .i64 0, .int .i64 0, .int .i64 0, .int .i64 0, .bool false] 49 (0, 0)) = W2
  have D2 : DtW X W2 vb id .nilIface .nilIface := by
    subst hW2
    refine ⟨by simp; omega, ?_, ?_, ((Below.refl _ X).alloc (by omega) _).alloc (by simp; omega) _⟩
    · exact (get_old (by simp; omega)).trans (get_new (by omega))
    · exact get_new (by simp; omega)
  clear hW2
  refine (setName (vb + 1) w.heap.size .nilIface W2 ((cell_of_row _ _ 0 _ _ _ D2.df).trans rfl) (frozen_of D2.df 0)).mono ?_
  rintro e W3 ⟨rfl, hW3⟩
  have D3 := D2.set0 (.iface 28 (.pointer (some ⟨w.heap.size, 0, none⟩)))
  rw [hW3] at D3
  have HD3 := Lib.hid D3
  have LX := Lib.hid lX
  have IX := Lib.hid iX
  have BX := Lib.hid bX
  clear hW3 D2 D3 lX iX bX
  go_wp2_with fail
  have D3 := HD3.out
  refine (setBody (vb + 1) vb .nilIface W3 ((cell_of_row _ _ 1 _ _ _ D3.df).trans rfl) (frozen_of D3.df 1)).mono ?_
  rintro e W4 ⟨rfl, hW4⟩
  have D4 := D3.set1 (.iface 40 (.pointer (some ⟨vb, 0, none⟩)))
  rw [hW4] at D4
  have HD4 := Lib.hid D4
  clear hW4 D3 D4 HD3
  go_wp2_with fail
  have D4 := HD4.out
  refine (zzCloneDF (vb + 1) _ _ _ (.lit name ⟨#[]⟩ ⟨#[]⟩ 0 (nA a' n c') zs none) (.var id n0 [] none) W4 D4.df ⟨_, rfl, (D4.below.block _ (by omega)).trans LX.out, ⟨strs_up IX.out D4.below (by have := D4.size; omega), HL.out, by show n ≤ 1048576; omega, rfl⟩⟩ ⟨_, rfl, D4.var, n0_ok _⟩).mono ?_
  rintro e W5 ⟨rfl, v0, v1, hdf, l0, l1, hk⟩
  have s4 := D4.size
  have s5 := hk.size
  obtain ⟨lb, n1, hge1, rfl, hnl, ⟨he1, ⟨g, cap, hv1, hg, ho⟩, hcx1⟩⟩ := l0
  obtain ⟨ub, n2, hge2, rfl, hnv, hn2⟩ := l1
  rw [HL.out] at hv1 ho
  rw [hv1] at ho
  have b5 : Below vb X W5 := D4.below.trans (hk.below (fun _ e => by omega) (by omega))
  have v5 : W5.heap[vb]? = _ := (hk.block vb (by omega) (by omega)).trans D4.var
  have a0 : W5.cell? ⟨lb, 0, none⟩ = some (.string name) := (cell_of_row _ _ 0 _ _ _ hnl).trans rfl
  have a5 : W5.cell? ⟨lb, 5, none⟩ = some (.slice (some ⟨g, 0, none⟩) n cap) := ((cell_of_row _ _ 5 _ _ _ hnl).trans rfl).trans (congrArg some hv1)
  have t0 : W5.frozen? ⟨lb, 0, none⟩ = false := frozen_of hnl 0
  have b0 : W5.cell? ⟨ub, 0, none⟩ = some (.string id) := (cell_of_row _ _ 0 _ _ _ hnv).trans rfl
  have t1 : W5.frozen? ⟨ub, 0, none⟩ = false := frozen_of hnv 0
  have f0 : W5.cell? ⟨vb + 1, 0, none⟩ = some (.iface 28 (.pointer (some ⟨lb, 0, none⟩))) := (cell_of_row _ _ 0 _ _ _ hdf).trans rfl
  have f1 : W5.cell? ⟨vb + 1, 1, none⟩ = some (.iface 40 (.pointer (some ⟨ub, 0, none⟩))) := (cell_of_row _ _ 1 _ _ _ hdf).trans rfl
  have nlu : lb ≠ ub := fun e => by
    rw [e, hnv] at hnl
    cases hnl
  have nlg : lb ≠ g := fun e => by
    obtain ⟨cg, fg, hcg⟩ := Lib.ownsRow_kind ho g rfl
    rw [← e, hnl] at hcg
    cases hcg
  have nug : ub ≠ g := fun e => by
    obtain ⟨cg, fg, hcg⟩ := Lib.ownsRow_kind ho g rfl
    rw [← e, hnv] at hcg
    cases hcg
  have HNL := Lib.hid hnl
  have HNV := Lib.hid hnv
  have HDF := Lib.hid hdf
  have HO := Lib.hid ho
  have HE1 := Lib.hid he1
  have HV1 := Lib.hid hv1
  have HN2 := Lib.hid hn2
  have HB5 := Lib.hid b5
  have HV5 := Lib.hid v5
  have HCX := Lib.hid hcx1
  have HGE := Lib.hid (show vb + 2 ≤ lb ∧ vb + 2 ≤ ub ∧ vb + 2 ≤ g ∧ vb + 2 ≤ W5.heap.size from ⟨by omega, by omega, by omega, by omega⟩)
  clear hnl hnv hdf ho he1 hv1 hn2 b5 v5 hk HD4 D4 hcx1
  go_wp2_with fail
  obtain ⟨b, off, rfl, hbl, hcc⟩ := HI.out.cell (k := 0) (by rw [HL.out]; exact hn0)
  have hc0 := hcc 0 (by rw [HL.out]; exact hn0)
  have hz0 := HZZ.out 0 hn0
  clear hcc
  obtain ⟨z, hzd⟩ : ∃ z, zs.getD 0 ByteArray.empty = z := ⟨_, rfl⟩
  rw [hzd] at hc0 hz0
  have y5 : ((W5.setCell ⟨lb, 0, none⟩ (.string (name ++ ⟨#[33]⟩))).setCell ⟨ub, 0, none⟩ (.string (id ++ ⟨#[33]⟩))).cell? ⟨lb, 5, none⟩ = some (.slice (some ⟨g, 0, none⟩) n cap) := by
    rw [World.cell?_setCell_other _ _ _ _ (fun e => by cases e), World.cell?_setCell_other _ _ _ _ (fun e => by cases e)]
    exact a5
  have yc : ((W5.setCell ⟨lb, 0, none⟩ (.string (name ++ ⟨#[33]⟩))).setCell ⟨ub, 0, none⟩ (.string (id ++ ⟨#[33]⟩))).cell? ⟨b, off, none⟩ = some (.string z) := by
    have hge := HGE.out
    rw [World.cell?_setCell_other _ _ _ _ (fun e => by cases e; omega), World.cell?_setCell_other _ _ _ _ (fun e => by cases e; omega), HB5.out.cell (p := ⟨b, off, none⟩) (show b < vb by omega), BX.out.cell (p := ⟨b, off, none⟩) hbl]
    exact hc0
  have yg : ((W5.setCell ⟨lb, 0, none⟩ (.string (name ++ ⟨#[33]⟩))).setCell ⟨ub, 0, none⟩ (.string (id ++ ⟨#[33]⟩))).cell? ⟨g, 0, none⟩ = some (.string z) := by
    rw [World.cell?_setCell_other _ _ _ _ (fun e => by cases e; exact nug rfl), World.cell?_setCell_other _ _ _ _ (fun e => by cases e; exact nlg rfl), HO.out.cellAt 0 (by omega), ← hzd]
    have h0 : 0 < zs.length := by have := HL.out; omega
    simp [List.getElem?_eq_getElem h0]
  have yz : ((W5.setCell ⟨lb, 0, none⟩ (.string (name ++ ⟨#[33]⟩))).setCell ⟨ub, 0, none⟩ (.string (id ++ ⟨#[33]⟩))).frozen? ⟨g, 0, none⟩ = false := by
    refine World.ownsRow.frozenAt (ownsRow_same HO.out (fun g' hg' => ?_)) 0
    obtain rfl : g = g' := by simpa [Value.ownBlock] using hg'
    rw [Below.heap_setCell _ _ _ _ (show g ≠ ub from fun e => nug e.symm), Below.heap_setCell _ _ _ _ (show g ≠ lb from fun e => nlg e.symm)]
  have i6 : (0 : Int) < (n : Int) := by omega
  have KB : ∀ i, i < vb + 2 → (((W5.setCell ⟨lb, 0, none⟩ (.string (name ++ ⟨#[33]⟩))).setCell ⟨ub, 0, none⟩ (.string (id ++ ⟨#[33]⟩))).setCell ⟨g, 0, none⟩ (.string (z ++ ⟨#[33]⟩))).heap[i]? = W5.heap[i]? := fun i hi => by
    have hge := HGE.out
    rw [Below.heap_setCell _ _ _ _ (show i ≠ g by omega), Below.heap_setCell _ _ _ _ (show i ≠ ub by omega), Below.heap_setCell _ _ _ _ (show i ≠ lb by omega)]
  have KC : ∀ (q : Addr) (v : Value), q.block < vb + 2 → W5.cell? q = some v → (((W5.setCell ⟨lb, 0, none⟩ (.string (name ++ ⟨#[33]⟩))).setCell ⟨ub, 0, none⟩ (.string (id ++ ⟨#[33]⟩))).setCell ⟨g, 0, none⟩ (.string (z ++ ⟨#[33]⟩))).cell? q = some v := fun q v hq hv => (World.cell?_of_block (KB q.block hq)).trans hv
  have lit5 : W5.heap[w.heap.size]? = _ := (HB5.out.block _ hgt).trans LX.out
  have m0 := KC ⟨w.heap.size, 0, none⟩ (.string name) (by show w.heap.size < vb + 2; omega) ((cell_of_row _ _ 0 _ _ _ lit5).trans rfl)
  have m5 := KC ⟨w.heap.size, 5, none⟩ (.slice a' n c') (by show w.heap.size < vb + 2; omega) ((cell_of_row _ _ 5 _ _ _ lit5).trans rfl)
  have mv := KC ⟨vb, 0, none⟩ (.string id) (by show vb < vb + 2; omega) ((cell_of_row _ _ 0 _ _ _ HV5.out).trans rfl)
  clear lit5 KC
  have HKB := Lib.hid KB
  clear KB
  refine (getName (vb + 1) lb W5 f0).mono ?_
  rintro e w6 ⟨rfl, rfl⟩
  go_wp2_with fail
  refine (getBody (vb + 1) ub _ f1).mono ?_
  rintro e w6 ⟨rfl, rfl⟩
  go_wp2_with fail
  generalize hW7 : ((W5.setCell ⟨lb, 0, none⟩ (.string (name ++ ⟨#[33]⟩))).setCell ⟨ub, 0, none⟩ (.string (id ++ ⟨#[33]⟩))) = W7 at y5 yc yg yz m0 m5 mv HKB ⊢
  go_region
  go_wp2_with fail
  have KB8 : ∀ i, i < vb + 2 → ((W7.setCell ⟨g, 0, none⟩ (.string (z ++ ⟨#[33]⟩))).drew).heap[i]? = W5.heap[i]? := fun i hi => HKB.out i hi
  have BL8 : Below vb X ((W7.setCell ⟨g, 0, none⟩ (.string (z ++ ⟨#[33]⟩))).drew) := by
    have hge := HGE.out
    subst hW7; exact HB5.out.trans (by first | exact ((((Below.refl vb W5).setCell (by show vb ≤ lb; omega) _).setCell (by show vb ≤ ub; omega) _).setCell (by show vb ≤ g; omega) _).drew | exact (((Below.refl vb W5).setCell (by show vb ≤ lb; omega) _).setCell (by show vb ≤ ub; omega) _))
  have NL8 : ((W7.setCell ⟨g, 0, none⟩ (.string (z ++ ⟨#[33]⟩))).drew).heap[lb]? = some (.cells (litCells (name ++ ⟨#[33]⟩) ⟨#[]⟩ ⟨#[]⟩ 0 n1) 39 (0, 0)) := by
    subst hW7; refine (Below.heap_setCell _ _ _ _ (show _ ≠ g by assumption)).trans ?_; exact (Below.heap_setCell _ _ _ _ (show lb ≠ ub by assumption)).trans ((Lib.heap_setCell_same HNL.out _).trans (by simp [litCells]))
  have NV8 : ((W7.setCell ⟨g, 0, none⟩ (.string (z ++ ⟨#[33]⟩))).drew).heap[ub]? = some (.cells (varCells (id ++ ⟨#[33]⟩) n2) 43 (0, 0)) := by
    subst hW7; refine (Below.heap_setCell _ _ _ _ (show _ ≠ g by assumption)).trans ?_; exact (Lib.heap_setCell_same ((Below.heap_setCell _ _ _ _ (show ub ≠ lb from fun e => nlu e.symm)).trans HNV.out) _).trans (by simp [varCells])
  have RW7 : (((W5.setCell ⟨lb, 0, none⟩ (.string (name ++ ⟨#[33]⟩))).setCell ⟨ub, 0, none⟩ (.string (id ++ ⟨#[33]⟩)))).ownsRow W4.heap.size 41 1 (.slice (some ⟨g, 0, none⟩) n cap) n (zs.map Value.string) := ownsRow_same HO.out (fun g' hg' => by
    obtain rfl : g = g' := by simpa [Value.ownBlock] using hg'
    rw [Below.heap_setCell _ _ _ _ (show g ≠ ub from fun e => nug e.symm), Below.heap_setCell _ _ _ _ (show g ≠ lb from fun e => nlg e.symm)])
  have R8 : ((W7.setCell ⟨g, 0, none⟩ (.string (z ++ ⟨#[33]⟩))).drew).ownsRow W4.heap.size 41 1 (.slice (some ⟨g, 0, none⟩) n cap) n ((zs.set 0 (z ++ ⟨#[33]⟩)).map Value.string) := by
    rw [hW7] at RW7
    have := (RW7.stored 0 (.string (z ++ ⟨#[33]⟩))).1
    rw [List.map_set]
    exact this
  have SZ8 : ((W7.setCell ⟨g, 0, none⟩ (.string (z ++ ⟨#[33]⟩))).drew).heap.size = W5.heap.size := by
    subst hW7; simp [World.setCell]
  have IM := Lib.hid (show StrsAt ((W7.setCell ⟨g, 0, none⟩ (.string (z ++ ⟨#[33]⟩))).drew) vb (.slice a' n c') zs from strs_up IX.out BL8 (Nat.le_refl _))
  have IW := Lib.hid (strs_up HI.out (BX.out.trans (BL8.mono (by omega))) (Nat.le_refl _))
  have OK1 := NBok.ofRow HV1.out R8 (by rw [List.length_set]; exact HL.out) (by omega) HCX.out
  have OK2 := NBok.ofBare HN2.out ((W7.setCell ⟨g, 0, none⟩ (.string (z ++ ⟨#[33]⟩))).drew)
  generalize (W7.setCell ⟨g, 0, none⟩ (.string (z ++ ⟨#[33]⟩))).drew = W8 at KB8 BL8 NL8 NV8 R8 SZ8 IM IW OK1 OK2 ⊢
  have HKB8 := Lib.hid KB8
  have HBL8 := Lib.hid BL8
  have HNL8 := Lib.hid NL8
  have HNV8 := Lib.hid NV8
  have HR8 := Lib.hid R8
  have HSZ8 := Lib.hid SZ8
  have HOK1 := Lib.hid OK1
  have HOK2 := Lib.hid OK2
  clear KB8 BL8 NL8 NV8 R8 RW7 SZ8 OK1 OK2
  refine (identsMatch a' _ n c' c vb w.heap.size zs _ IM.out IW.out HL.out (by omega)).mono ?_
  rintro e w9 ⟨rfl, m, rfl⟩
  go_wp2_with fail
  refine (zzCloneDF (vb + 1) _ _ _ (.lit (name ++ ⟨#[33]⟩) ⟨#[]⟩ ⟨#[]⟩ 0 n1 (zs.set 0 (z ++ ⟨#[33]⟩)) none) (.var (id ++ ⟨#[33]⟩) n2 [] none) _ (by exact (HKB8.out (vb + 1) (by omega)).trans HDF.out) (by exact ⟨_, rfl, HNL8.out, nb_drewN HOK1.out _⟩) (by exact ⟨_, rfl, HNV8.out, nb_drewN HOK2.out _⟩)).mono ?_
  rintro e W10 ⟨rfl, v0', v1', hdf2, l02, l12, hk2⟩
  have ge := HGE.out
  have s8 := HSZ8.out
  have s10 := hk2.size
  have lb8 := (Array.getElem?_eq_some_iff.1 HNL8.out).1
  have ub8 := (Array.getElem?_eq_some_iff.1 HNV8.out).1
  obtain ⟨lb2, m1, hge3, rfl, hnl2, ⟨_, ⟨g3, cap3, hv3, hg3, ho3⟩, _⟩⟩ := l02
  obtain ⟨ub2, m2, hge4, rfl, hnv2, _⟩ := l12
  have hz3 : (zs.set 0 (z ++ ⟨#[33]⟩)).length = n := (by rw [List.length_set]; exact HL.out)
  rw [hz3] at hv3 ho3
  rw [hv3] at ho3
  change W8.heap.size ≤ lb2 at hge3
  change W8.heap.size ≤ ub2 at hge4
  have ol : W10.heap[lb]? = _ := (hk2.block lb lb8 (by omega)).trans HNL8.out
  have ou : W10.heap[ub]? = _ := (hk2.block ub ub8 (by omega)).trans HNV8.out
  have bel : Below vb X W10 := HBL8.out.trans ((drewN_below (Below.refl _ _) _).trans (hk2.below (fun _ e => by omega) (by show vb ≤ W8.heap.size; omega)))
  have pe1 : ∀ m, (binOp .eql 28 (.pointer (some ⟨lb2, 0, none⟩)) (.pointer (some ⟨lb, 0, none⟩))).run Tryf.prog (W10.drewN m) = .ok (.bool false) (W10.drewN m) := eq_heads (n := 13) Tryf.underlying28 (by kernel_rfl) (by decide) (by omega) hnl2 ol
  have pe2 : ∀ m, (binOp .eql 40 (.pointer (some ⟨ub2, 0, none⟩)) (.pointer (some ⟨ub, 0, none⟩))).run Tryf.prog (W10.drewN m) = .ok (.bool false) (W10.drewN m) := eq_heads (n := 10) Tryf.underlying40 (by kernel_rfl) (by decide) (by omega) hnv2 ou
  have pe10 : (binOp .eql 28 (.pointer (some ⟨lb2, 0, none⟩)) (.pointer (some ⟨lb, 0, none⟩))).run Tryf.prog W10 = .ok (.bool false) W10 := pe1 0
  have pe20 : (binOp .eql 40 (.pointer (some ⟨ub2, 0, none⟩)) (.pointer (some ⟨ub, 0, none⟩))).run Tryf.prog W10 = .ok (.bool false) W10 := pe2 0
  have r0 : W10.cell? ⟨lb2, 0, none⟩ = some (.string (name ++ ⟨#[33]⟩)) := (cell_of_row _ _ 0 _ _ _ hnl2).trans rfl
  have r5 : W10.cell? ⟨lb2, 5, none⟩ = some (.slice (some ⟨g3, 0, none⟩) n cap3) := ((cell_of_row _ _ 5 _ _ _ hnl2).trans rfl).trans (congrArg some hv3)
  have u0 : W10.cell? ⟨ub2, 0, none⟩ = some (.string (id ++ ⟨#[33]⟩)) := (cell_of_row _ _ 0 _ _ _ hnv2).trans rfl
  have f0' : W10.cell? ⟨vb + 1, 0, none⟩ = some (.iface 28 (.pointer (some ⟨lb2, 0, none⟩))) := (cell_of_row _ _ 0 _ _ _ hdf2).trans rfl
  have f1' : W10.cell? ⟨vb + 1, 1, none⟩ = some (.iface 40 (.pointer (some ⟨ub2, 0, none⟩))) := (cell_of_row _ _ 1 _ _ _ hdf2).trans rfl
  have rc : W10.cell? ⟨g3, 0, none⟩ = some (.string (z ++ ⟨#[33]⟩)) := by
    rw [ho3.cellAt 0 (by simp; have := HL.out; omega)]
    have : 0 < zs.length := by have := HL.out; omega
    simp [List.getElem?_set, this]
  have rb : W10.cell? ⟨b, off, none⟩ = some (.string z) := by
    rw [bel.cell (p := ⟨b, off, none⟩) (show b < vb by omega), BX.out.cell (p := ⟨b, off, none⟩) hbl]
    exact hc0
  have HBL := Lib.hid (BX.out.trans (bel.mono (by omega)))
  clear hnl2 hnv2 hdf2 ho3 hv3 hk2 ol ou bel HSZ8 HNL8 HNV8 HR8 HOK1 HOK2 HKB8 HBL8
  go_wp2_with fail
  refine (getName (vb + 1) lb2 W10 f0').mono ?_
  rintro e w11 ⟨rfl, rfl⟩
  go_wp2_with fail
  refine (getBody (vb + 1) ub2 _ f1').mono ?_
  rintro e w12 ⟨rfl, rfl⟩
  go_wp2_with fail
  go_quiet (fail)
  go_wp2
  go_ret
  exact ⟨rfl, drewN_below HBL.out _⟩


end Go.Proofs.YtgmmbimbbkbjfaaFmt.fnCloneDesugaredFieldDetached
