/-
  clone at an Array of variables; Clone; the shims of n008_147.
-/
import Derived.Test.YtegabjiaekfmbaaFmtArA
namespace Go.Proofs.YtegabjiaekfmbaaFmt
open Go Go.RowKit

theorem nodeArr : NodeT 29 2 := ⟨fun _ _ => by kernel_rfl, fun _ _ => by kernel_rfl, fun _ _ => by kernel_rfl, fun _ _ => by kernel_rfl, fun _ _ => by kernel_rfl, fun _ _ => by kernel_rfl⟩
def arrCells (v : Value) (n : NBase) (tc : Bool) : Array Value := #[v, .slice none 0 0, .slice n.fa n.fn n.fc, .pointer n.ca, .slice n.va n.vn n.vc, .pointer n.fp, .string n.nm, .int .i64 n.bl, .int .i64 n.bc, .int .i64 n.el, .int .i64 n.ec, .bool tc]
/-- A new Array of variables. -/
def ArrNew (B : Nat) (w : World) (r en : Nat) (tc : Bool) (fs : Nat → Value) (ids : Nat → ByteArray) (fz : Nat → List ByteArray) (cc : Option ByteArray) (zs : List ByteArray) (c : Option ByteArray) : Prop :=
  ∃ (g cap : Nat) (us : Nat → Value) (bs : Nat → Nat) (n' : NBase), B ≤ r ∧ r < g ∧ g < bs 0 ∧ (∀ i, i < en → bs i ≤ bs (i + 1)) ∧ w.heap[r]? = some (.cells (arrCells (.slice (some ⟨g, 0, none⟩) en cap) n' tc) 47 (0, 0)) ∧ CseRow w g en us fs ∧
    (∀ i, i < en → VarIn (bs i) (bs (i + 1)) w (us i) (ids i) (fz i) cc) ∧ NBin (bs en) w.heap.size w n' zs c
def ClonedArr (p : Addr) (en : Nat) (tc : Bool) (fs : Nat → Value) (ids : Nat → ByteArray) (fz : Nat → List ByteArray) (cc : Option ByteArray) (zs : List ByteArray) (c : Option ByteArray) (w : World) (e : Ending) (w' : World) : Prop :=
  e = .returned (.tuple #[]) ∧ ArrNew w.heap.size w' w.heap.size en tc fs ids fz cc zs c ∧ Set1 w w' p (.iface 29 (.pointer (some ⟨w.heap.size, 0, none⟩)))
theorem NBok.belowA {w w' : World} {n : NBase} {zs : List ByteArray} {c : Option ByteArray} (h : NBok w n zs c) (hb : Below w.heap.size w w') : NBok w' n zs c := by
  refine ⟨strs_keep (X := w) h.fv hb.size (fun p z hlt hq => (hb.cell hlt).trans hq) (Below.refl _ _), h.len, h.le, ?_⟩
  have hc := h.ctx
  cases c with
  | none => exact hc
  | some t =>
    obtain ⟨q, hq, hc⟩ := hc
    exact ⟨q, hq, (hb.cell (p := ⟨q, 0, none⟩) (World.block_lt_of_cell? w ⟨q, 0, none⟩ hc)).trans hc⟩

theorem arr_end {pb po : Nat} {en cap g : Nat} {tc : Bool} {fs us : Nat → Value} {bs : Nat → Nat} {ids : Nat → ByteArray} {fz : Nat → List ByteArray} {cc : Option ByteArray} {n : NBase} {zs : List ByteArray} {c : Option ByteArray} {w X W1 W2 : World} (hltp : pb < w.heap.size)
    (hX : Kept (fun i => i = pb) w X) (hXs : X.heap.size = w.heap.size + 1) (hXp : X.heap[pb]? = (w.setCell ⟨pb, po, none⟩ (.iface 29 (.pointer (some ⟨w.heap.size, 0, none⟩)))).heap[pb]?)
    (hg : X.heap.size ≤ g) (hr : CseRow W1 g en us fs) (hv : ∀ i, i < en → VarIn (bs i) (bs (i + 1)) W1 (us i) (ids i) (fz i) cc) (hm : ∀ i, i < en → bs i ≤ bs (i + 1)) (hb0 : g < bs 0) (ht : bs en = W1.heap.size) (hbl : Below X.heap.size X W1)
    (h : NBPost w.heap.size 2 (arrCells (.slice (some ⟨g, 0, none⟩) en cap) n tc) 47 zs c (W1.setCell ⟨w.heap.size, 0, none⟩ (.slice (some ⟨g, 0, none⟩) en cap)) (.returned (.tuple #[])) W2) :
    ClonedArr ⟨pb, po, none⟩ en tc fs ids fz cc zs c w (.returned (.tuple #[])) W2 := by
  obtain ⟨_, ca, fv, h1, h2, ⟨g2, cap2, rfl, hg2, ho⟩, hk⟩ := h
  have z0 : (W1.setCell ⟨w.heap.size, 0, none⟩ (.slice (some ⟨g, 0, none⟩) en cap)).heap.size = W1.heap.size := by simp [World.setCell]
  have z2 := hk.size
  have zb := hbl.size
  have KW : ∀ i, i < W1.heap.size → i ≠ w.heap.size → W2.heap[i]? = W1.heap[i]? := fun i hi hne => (hk.block i (by omega) hne).trans (Below.heap_setCell W1 _ _ i hne)
  refine ⟨rfl, ⟨g, cap, us, bs, { n with ca := ca, va := some ⟨g2, 0, none⟩, vn := zs.length, vc := cap2 }, Nat.le_refl _, by omega, hb0, hm, h1, ?_, fun i hi => ?_, ?_⟩, ?_, ?_⟩
  · obtain ⟨C, hC, hc⟩ := hr
    have := (Array.getElem?_eq_some_iff.1 hC).1
    exact ⟨C, (KW g this (by omega)).trans hC, hc⟩
  · have t1 := chain2 hm (i := i + 1) (j := en) (by omega) (Nat.le_refl _)
    have t2 := chain2 hm (i := 0) (j := i) (by omega) (by omega)
    exact (hv i hi).keep fun k a1 a2 => KW k (by omega) (by omega)
  · rw [z0] at h2 hg2 ho
    rw [ht]
    obtain ⟨cg, fg, hcg⟩ := Lib.ownsRow_kind ho g2 rfl
    refine ⟨⟨g2, cap2, rfl, hg2, (Array.getElem?_eq_some_iff.1 hcg).1, ho⟩, ?_⟩
    cases c with
    | none => exact h2
    | some t =>
      obtain ⟨q, a1, a2, a3⟩ := h2
      exact ⟨q, a1, (Array.getElem?_eq_some_iff.1 a3).1, a2, a3⟩
  · refine ⟨hk.os.trans (hbl.os.trans hX.os), hk.tape.trans (hbl.tape.trans hX.tape), hk.output.trans (hbl.output.trans hX.output), by omega, fun i hi hS => ?_⟩
    exact (KW i (by omega) (by omega)).trans ((hbl.block i (by omega)).trans (hX.block i hi hS))
  · show W2.heap[pb]? = _
    rw [KW pb (by omega) (by omega), hbl.block pb (by omega)]
    exact hXp

set_option maxHeartbeats 3200000 in
set_option maxRecDepth 1000000 in
theorem clone_arr (pb po b : Nat) (ea : Option Addr) (en ec : Nat) (tc : Bool) (n : NBase) (zs : List ByteArray) (c : Option ByteArray) (vs fs : Nat → Value) (ids : Nat → ByteArray) (nb : Nat → NBase) (fz : Nat → List ByteArray) (cc : Option ByteArray) (w : World)
    (hp : w.cell? ⟨pb, po, none⟩ = some (.iface 29 (.pointer (some ⟨b, 0, none⟩)))) (hf : w.frozen? ⟨pb, po, none⟩ = false)
    (hb : w.heap[b]? = some (.cells (arrCells (.slice ea en ec) n tc) 47 (0, 0))) (hne : pb ≠ b) (hn : NBok w n zs c)
    (hl : 0 < en → ∃ L, ea = some ⟨L, 0, none⟩ ∧ CseRow w L en vs fs) (h0 : ea = none → en = 0) (hx : ∀ i, i < en → LeafAt w (vs i) (.var (ids i) (nb i) (fz i) cc)) (h1 : ∀ i, i < en → (vs i).oneCell' = true ∧ (fs i).oneCell' = true) (hen : en ≤ 1048576)
    {CP : Array Value} {TP : TypeId} (hbp : w.heap[pb]? = some (.cells CP TP (0, 0))) (hT : TP ≠ 60 ∧ TP ≠ 75) (hT2 : TP ≠ 56) :
    Calls Tryf.prog 49 #[.pointer (some ⟨pb, po, none⟩)] w (ClonedArr ⟨pb, po, none⟩ en tc fs ids fz cc zs c w) := by
  have HN := Lib.hid hn
  have HP := Lib.hid hp
  have HX := Lib.hid hx
  have HBP := Lib.hid hbp
  have HL := Lib.hid hl
  have H0 := Lib.hid h0
  have H1 := Lib.hid h1
  have hlt : b < w.heap.size := (Array.getElem?_eq_some_iff.1 hb).1
  have hltp : pb < w.heap.size := World.block_lt_of_cell? w ⟨pb, po, none⟩ hp
  have v0 : w.cell? ⟨b, 0, none⟩ = some (.slice ea en ec) := (cell_of_row w b 0 _ _ _ hb).trans rfl
  have v1 : w.cell? ⟨b, 1, none⟩ = some (.slice none 0 0) := (cell_of_row w b 1 _ _ _ hb).trans rfl
  have v2 : w.cell? ⟨b, 2, none⟩ = some (.slice n.fa n.fn n.fc) := (cell_of_row w b 2 _ _ _ hb).trans rfl
  have v3 : w.cell? ⟨b, 3, none⟩ = some (.pointer n.ca) := (cell_of_row w b 3 _ _ _ hb).trans rfl
  have v4 : w.cell? ⟨b, 4, none⟩ = some (.slice n.va n.vn n.vc) := (cell_of_row w b 4 _ _ _ hb).trans rfl
  have v5 : w.cell? ⟨b, 5, none⟩ = some (.pointer n.fp) := (cell_of_row w b 5 _ _ _ hb).trans rfl
  have v6 : w.cell? ⟨b, 6, none⟩ = some (.string n.nm) := (cell_of_row w b 6 _ _ _ hb).trans rfl
  have v7 : w.cell? ⟨b, 7, none⟩ = some (.int .i64 n.bl) := (cell_of_row w b 7 _ _ _ hb).trans rfl
  have v8 : w.cell? ⟨b, 8, none⟩ = some (.int .i64 n.bc) := (cell_of_row w b 8 _ _ _ hb).trans rfl
  have v9 : w.cell? ⟨b, 9, none⟩ = some (.int .i64 n.el) := (cell_of_row w b 9 _ _ _ hb).trans rfl
  have v10 : w.cell? ⟨b, 10, none⟩ = some (.int .i64 n.ec) := (cell_of_row w b 10 _ _ _ hb).trans rfl
  have v11 : w.cell? ⟨b, 11, none⟩ = some (.bool tc) := (cell_of_row w b 11 _ _ _ hb).trans rfl
  clear hb hn hx hbp hl h0 h1
  go_enter Tryf.func49, Tryf.ntmps49
  go_wp2_with fail
  have hXs : ((w.setCell ⟨pb, po, none⟩ (.iface 29 (.pointer (some ⟨w.heap.size, 0, none⟩)))).alloc (.cells (arrCells (.slice ea en ec) n tc) 47 (0, 0))).heap.size = w.heap.size + 1 := by simp [World.setCell]
  have hX : ((w.setCell ⟨pb, po, none⟩ (.iface 29 (.pointer (some ⟨w.heap.size, 0, none⟩)))).alloc (.cells (arrCells (.slice ea en ec) n tc) 47 (0, 0))).heap[w.heap.size]? = some (.cells (arrCells (.slice ea en ec) n tc) 47 (0, 0)) := by
    have := heap_alloc_new (w.setCell ⟨pb, po, none⟩ (.iface 29 (.pointer (some ⟨w.heap.size, 0, none⟩)))) (.cells (arrCells (.slice ea en ec) n tc) 47 (0, 0))
    rwa [show (w.setCell ⟨pb, po, none⟩ (.iface 29 (.pointer (some ⟨w.heap.size, 0, none⟩)))).heap.size = w.heap.size by simp [World.setCell]] at this
  have hXk : Kept (fun i => i = pb) w ((w.setCell ⟨pb, po, none⟩ (.iface 29 (.pointer (some ⟨w.heap.size, 0, none⟩)))).alloc (.cells (arrCells (.slice ea en ec) n tc) 47 (0, 0))) := (Kept.setCell w ⟨pb, po, none⟩ _).trans (Kept.ofBelow ((Below.refl _ _).alloc (Nat.le_refl _) _))
  have hXp : ((w.setCell ⟨pb, po, none⟩ (.iface 29 (.pointer (some ⟨w.heap.size, 0, none⟩)))).alloc (.cells (arrCells (.slice ea en ec) n tc) 47 (0, 0))).heap[pb]? = (w.setCell ⟨pb, po, none⟩ (.iface 29 (.pointer (some ⟨w.heap.size, 0, none⟩)))).heap[pb]? := Below.heap_alloc _ _ pb (by simp [World.setCell]; omega)
  change Calls Tryf.prog _ _ ((w.setCell ⟨pb, po, none⟩ (.iface 29 (.pointer (some ⟨w.heap.size, 0, none⟩)))).alloc (.cells (arrCells (.slice ea en ec) n tc) 47 (0, 0))) _
  generalize ((w.setCell ⟨pb, po, none⟩ (.iface 29 (.pointer (some ⟨w.heap.size, 0, none⟩)))).alloc (.cells (arrCells (.slice ea en ec) n tc) 47 (0, 0))) = X at hX hXs hXk hXp ⊢
  have s1 : Set1 w X ⟨pb, po, none⟩ (.iface 29 (.pointer (some ⟨w.heap.size, 0, none⟩))) := ⟨hXk, hXp⟩
  have lX : ∀ i, i < en → LeafAt X (vs i) (.var (ids i) (nb i) (fz i) cc) := fun i hi => (HX.out i hi).set1 s1 HP.out (fun s h => by cases h) HBP.out hT
  have nX : NBok X n zs c := HN.out.set1 s1 HP.out (fun s h => by cases h)
  have rX : 0 < en → ∃ L, ea = some ⟨L, 0, none⟩ ∧ CseRow X L en vs fs := fun hp => by
    obtain ⟨L, e1, C, e2, e3⟩ := HL.out hp
    refine ⟨L, e1, C, (hXk.block L (Array.getElem?_eq_some_iff.1 e2).1 (fun e => ?_)).trans e2, e3⟩
    have e : L = pb := e
    rw [e, HBP.out] at e2
    cases e2
    exact hT2 rfl
  refine (cloneCsv ea en ec vs fs ids nb fz cc X rX H0.out lX H1.out hen).mono ?_
  rintro e W1 ⟨g, cap, us, bs, rfl, hg, hr, hv, hm, hb0, ht, hbl⟩
  have hW1 : W1.heap[w.heap.size]? = some (.cells (arrCells (.slice ea en ec) n tc) 47 (0, 0)) := (hbl.block _ (by omega)).trans hX
  have y0 : W1.cell? ⟨w.heap.size, 0, none⟩ = some (.slice ea en ec) := (cell_of_row _ _ 0 _ _ _ hW1).trans rfl
  have z0 : W1.frozen? ⟨w.heap.size, 0, none⟩ = false := frozen_of hW1 0
  have s2 : Set1 W1 (W1.setCell ⟨w.heap.size, 0, none⟩ (.slice (some ⟨g, 0, none⟩) en cap)) ⟨w.heap.size, 0, none⟩ (.slice (some ⟨g, 0, none⟩) en cap) := ⟨Kept.setCell _ _ _, rfl⟩
  have n1 := (nX.belowA hbl).set1 s2 y0 (fun s h => by cases h)
  have hW2 : (W1.setCell ⟨w.heap.size, 0, none⟩ (.slice (some ⟨g, 0, none⟩) en cap)).heap[w.heap.size]? = some (.cells (arrCells (.slice (some ⟨g, 0, none⟩) en cap) n tc) 47 (0, 0)) := (Lib.heap_setCell_same hW1 _).trans (by simp [arrCells])
  have hpp : (W1.setCell ⟨w.heap.size, 0, none⟩ (.slice (some ⟨g, 0, none⟩) en cap)).cell? ⟨pb, po, none⟩ = some (.iface 29 (.pointer (some ⟨w.heap.size, 0, none⟩))) := by
    rw [World.cell?_of_block (a := ⟨pb, po, none⟩) ((Below.heap_setCell W1 _ _ pb (by show pb ≠ w.heap.size; omega)).trans ((hbl.block pb (by show pb < X.heap.size; omega)).trans hXp))]
    exact World.cell?_setCell_same _ _ _ HP.out
  have HW2 := Lib.hid hW2
  have N1 := Lib.hid n1
  have HR := Lib.hid (show CseRow W1 g en us fs ∧ (∀ i, i < en → VarIn (bs i) (bs (i + 1)) W1 (us i) (ids i) (fz i) cc) ∧ (∀ i, i < en → bs i ≤ bs (i + 1)) ∧ g < bs 0 ∧ bs en = W1.heap.size from ⟨hr, hv, hm, hb0, ht⟩)
  have HBL := Lib.hid hbl
  have HK := Lib.hid hXk
  have HQ := Lib.hid hXp
  clear hX hXk hXp s1 lX nX rX v0 v1 v2 v3 v4 v5 v6 v7 v8 v9 v10 v11 hp hf hr hv hm hb0 ht hbl hW1 s2 n1 hW2
  go_wp2_with fail
  refine (cloneNB 29 2 w.heap.size nodeArr _ _ n zs c _ HW2.out rfl rfl N1.out).mono ?_
  rintro e W3 h
  obtain ⟨rfl, h'⟩ := h
  have H := Lib.hid h'
  clear h'
  go_wp2
  go_end0
  exact arr_end hltp HK.out hXs HQ.out hg HR.out.1 HR.out.2.1 HR.out.2.2.1 HR.out.2.2.2.1 HR.out.2.2.2.2 HBL.out ⟨rfl, H.out⟩

/-- An Array as it reads. -/
structure ArrAt (w : World) (b en : Nat) (tc : Bool) (n : NBase) (zs : List ByteArray) (c : Option ByteArray) (vs fs : Nat → Value) (ids : Nat → ByteArray) (nb : Nat → NBase) (fz : Nat → List ByteArray) (cc : Option ByteArray) : Prop where
  head : ∃ ea ec, w.heap[b]? = some (.cells (arrCells (.slice ea en ec) n tc) 47 (0, 0)) ∧ (0 < en → ∃ L, ea = some ⟨L, 0, none⟩ ∧ CseRow w L en vs fs) ∧ (ea = none → en = 0)
  base : NBok w n zs c
  vars : ∀ i, i < en → LeafAt w (vs i) (.var (ids i) (nb i) (fz i) cc)
  one : ∀ i, i < en → (vs i).oneCell' = true ∧ (fs i).oneCell' = true
  le : en ≤ 1048576

set_option maxRecDepth 100000 in
theorem cloneArr (b en : Nat) (tc : Bool) (n : NBase) (zs : List ByteArray) (c : Option ByteArray) (vs fs : Nat → Value) (ids : Nat → ByteArray) (nb : Nat → NBase) (fz : Nat → List ByteArray) (cc : Option ByteArray) (w : World) (h : ArrAt w b en tc n zs c vs fs ids nb fz cc) :
    Calls Tryf.prog 45 #[.iface 29 (.pointer (some ⟨b, 0, none⟩))] w fun e w' => ∃ r, e = .returned (.iface 29 (.pointer (some ⟨r, 0, none⟩))) ∧ ArrNew w.heap.size w' r en tc fs ids fz cc zs c ∧ Below w.heap.size w w' := by
  have H := Lib.hid h
  clear h
  go_enter Tryf.func45, Tryf.ntmps45
  go_wp2_with fail
  have hb1 : Below w.heap.size w (w.alloc (.cells #[.iface 29 (.pointer (some ⟨b, 0, none⟩))] 54 (0, 0))) := (Below.refl _ w).alloc (Nat.le_refl _) _
  have hX : (w.alloc (.cells #[.iface 29 (.pointer (some ⟨b, 0, none⟩))] 54 (0, 0))).heap[w.heap.size]? = some (.cells #[.iface 29 (.pointer (some ⟨b, 0, none⟩))] 54 (0, 0)) := heap_alloc_new w _
  have hsz : (w.alloc (.cells #[.iface 29 (.pointer (some ⟨b, 0, none⟩))] 54 (0, 0))).heap.size = w.heap.size + 1 := by simp
  generalize (w.alloc (.cells #[.iface 29 (.pointer (some ⟨b, 0, none⟩))] 54 (0, 0))) = X at hb1 hX hsz ⊢
  obtain ⟨⟨ea, ec, h1, h2, h3⟩, h4, h5, h6, h7⟩ := H.out
  have hbl := (Array.getElem?_eq_some_iff.1 h1).1
  refine (clone_arr w.heap.size 0 b ea en ec tc n zs c vs fs ids nb fz cc X ((cell_of_row _ _ 0 _ _ _ hX).trans rfl) (frozen_of hX 0) ((hb1.block b hbl).trans h1) (by omega) (h4.belowA hb1) (fun hp => ?_) h3 (fun i hi => ?_) h6 h7 hX (by decide) (by decide)).mono ?_
  · obtain ⟨L, e1, C, e2, e3⟩ := h2 hp
    exact ⟨L, e1, C, (hb1.block L (Array.getElem?_eq_some_iff.1 e2).1).trans e2, e3⟩
  · obtain ⟨q, a1, a2, a3⟩ := h5 i hi
    exact ⟨q, a1, (hb1.block q (Array.getElem?_eq_some_iff.1 a2).1).trans a2, a3.belowA hb1⟩
  rintro e W2 ⟨rfl, h8, h9⟩
  have hc : W2.cell? ⟨w.heap.size, 0, none⟩ = some (.iface 29 (.pointer (some ⟨X.heap.size, 0, none⟩))) := by
    rw [World.cell?_of_block (a := ⟨w.heap.size, 0, none⟩) h9.self]
    exact World.cell?_setCell_same _ _ _ ((cell_of_row _ _ 0 _ _ _ hX).trans rfl)
  have F : ArrNew w.heap.size W2 X.heap.size en tc fs ids fz cc zs c ∧ Below w.heap.size w W2 := by
    obtain ⟨g, cap, us, bs, n', g1, gr⟩ := h8
    exact ⟨⟨g, cap, us, bs, n', by omega, gr⟩, hb1.trans (h9.kept.below (fun _ e => by subst e; exact Nat.le_refl _) (by omega))⟩
  have HF := Lib.hid F
  clear F h1 h2 h3 h4 h5 h6 h8 h9 hX hb1
  go_wp2
  go_ret
  exact ⟨_, rfl, by have h := HF.out; rw [hsz] at h; exact h⟩

set_option maxRecDepth 100000 in
theorem zzCloneArr (b en : Nat) (tc : Bool) (n : NBase) (zs : List ByteArray) (c : Option ByteArray) (vs fs : Nat → Value) (ids : Nat → ByteArray) (nb : Nat → NBase) (fz : Nat → List ByteArray) (cc : Option ByteArray) (w : World) (h : ArrAt w b en tc n zs c vs fs ids nb fz cc) :
    Calls Tryf.prog 12 #[.pointer (some ⟨b, 0, none⟩)] w fun e w' => ∃ r, e = .returned (.pointer (some ⟨r, 0, none⟩)) ∧ ArrNew w.heap.size w' r en tc fs ids fz cc zs c ∧ Below w.heap.size w w' := by
  have H := Lib.hid (cloneArr b en tc n zs c vs fs ids nb fz cc w h)
  clear h
  go_enter Tryf.func12, Tryf.ntmps12
  go_wp2_with fail
  refine H.out.mono ?_
  rintro e w1 ⟨r, rfl, h⟩
  have H1 := Lib.hid h
  clear h
  go_wp2
  go_ret
  exact ⟨r, rfl, H1.out⟩

theorem zzElemVar (r L i n c b : Nat) (fa : Option Addr) (w : World) (h0 : w.cell? ⟨r, 0, none⟩ = some (.slice (some ⟨L, 0, none⟩) n c)) (hi : i < n) (h1 : w.cell? ⟨L, i * 2, none⟩ = some (.iface 57 (.pointer (some ⟨b, 0, none⟩)))) :
    Calls Tryf.prog 15 #[.pointer (some ⟨r, 0, none⟩), .int .i64 i] w fun e w' => e = .returned (.pointer (some ⟨b, 0, none⟩)) ∧ w = w' := by
  have i1 : (0 : Int) ≤ (i : Int) := Int.natCast_nonneg _
  have i2 : (i : Int) < (n : Int) := by omega
  go_enter Tryf.func15, Tryf.ntmps15
  go_wp2
  go_ret
  exact ⟨rfl, rfl⟩

end Go.Proofs.YtegabjiaekfmbaaFmt
