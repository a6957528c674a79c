/-
  clone at a Binary of two variables.
-/
import Derived.Test.YtgmmbimbbkbjfaaFmtCloneC
namespace Go.Proofs.YtgmmbimbbkbjfaaFmt
open Go Go.RowKit

theorem nodeBin : NodeT 81 3 := ⟨fun _ _ => by kernel_rfl, fun _ _ => by kernel_rfl, fun _ _ => by kernel_rfl, fun _ _ => by kernel_rfl, fun _ _ => by kernel_rfl, fun _ _ => by kernel_rfl⟩
def binCells (r l : Value) (fo : Option Addr) (fn fc : Nat) (n : NBase) (op : Int) : Array Value := #[r, l, .slice fo fn fc, .slice n.fa n.fn n.fc, .pointer n.ca, .slice n.va n.vn n.vc, .pointer n.fp, .string n.nm, .int .i64 n.bl, .int .i64 n.bc, .int .i64 n.el, .int .i64 n.ec, .int .i64 op]

/-- What clone leaves of a Binary: three new heads, the left operand's before the right one's. -/
def BinNew (p : Addr) (fo : Option Addr) (fn fc : Nat) (n : NBase) (op : Int) (zs : List ByteArray) (c : Option ByteArray) (lid : ByteArray) (ln : NBase) (lz : List ByteArray) (lc : Option ByteArray) (rid : ByteArray) (rn : NBase) (rz : List ByteArray) (rc : Option ByteArray) (w : World) (e : Ending) (w' : World) : Prop :=
  e = .returned (.tuple #[]) ∧ ∃ lb rb n' ln' rn', w.heap.size < lb ∧ lb < rb ∧ w'.heap[w.heap.size]? = some (.cells (binCells (.iface 40 (.pointer (some ⟨rb, 0, none⟩))) (.iface 40 (.pointer (some ⟨lb, 0, none⟩))) fo fn fc n' op) 85 (0, 0)) ∧
    w'.heap[lb]? = some (.cells (varCells lid ln') 43 (0, 0)) ∧ w'.heap[rb]? = some (.cells (varCells rid rn') 43 (0, 0)) ∧ NBnew w.heap.size w' n n' zs c ∧ NBnew w.heap.size w' ln ln' lz lc ∧ NBnew w.heap.size w' rn rn' rz rc ∧ Set1 w w' p (.iface 81 (.pointer (some ⟨w.heap.size, 0, none⟩)))

theorem old_keep {w : World} {pb po : Nat} {u v : Value} {o : Obj} {b : Nat} {C : Array Value} {T : TypeId} (hpb : pb ≠ b) (hb : w.heap[b]? = some (.cells C T (0, 0))) (_hu : w.cell? ⟨pb, po, none⟩ = some u) : ((w.setCell ⟨pb, po, none⟩ v).alloc o).heap[b]? = some (.cells C T (0, 0)) := by
  have hlt := (Array.getElem?_eq_some_iff.1 hb).1
  rw [Below.heap_alloc _ _ b (by simp [World.setCell]; omega), Below.heap_setCell w ⟨pb, po, none⟩ v b (Ne.symm hpb)]
  exact hb

theorem bin_end {pb po : Nat} {fo : Option Addr} {fn fc : Nat} {n : NBase} {op : Int} {zs : List ByteArray} {c : Option ByteArray} {lid rid : ByteArray} {ln rn : NBase} {lz rz : List ByteArray} {lc rc : Option ByteArray} {w X W1 W2 W3 : World} {v0 v1 : Value} (hltp : pb < w.heap.size)
    (hX : Kept (fun i => i = pb) w X) (hXs : X.heap.size = w.heap.size + 1) (hXp : X.heap[pb]? = (w.setCell ⟨pb, po, none⟩ (.iface 81 (.pointer (some ⟨w.heap.size, 0, none⟩)))).heap[pb]?)
    (s1 : Set1 X W1 ⟨w.heap.size, 1, none⟩ v1) (l1 : LeafNew X.heap.size W1 v1 (.var lid ln lz lc)) (s2 : Set1 W1 W2 ⟨w.heap.size, 0, none⟩ v0) (l0 : LeafNew W1.heap.size W2 v0 (.var rid rn rz rc))
    (h : NBPost w.heap.size 3 (binCells v0 v1 fo fn fc n op) 85 zs c W2 (.returned (.tuple #[])) W3) :
    BinNew ⟨pb, po, none⟩ fo fn fc n op zs c lid ln lz lc rid rn rz rc w (.returned (.tuple #[])) W3 := by
  obtain ⟨_, ca, fv, h1, h2, ⟨g, cap, rfl, hg, ho⟩, hk⟩ := h
  have z1 := s1.kept.size
  have z2 := s2.kept.size
  obtain ⟨lb, ln', hl1, rfl, hl2, hl3⟩ := l1
  obtain ⟨rb, rn', hr1, rfl, hr2, hr3⟩ := l0
  have hlb := (Array.getElem?_eq_some_iff.1 hl2).1
  have hrb := (Array.getElem?_eq_some_iff.1 hr2).1
  have k2 : ∀ i, X.heap.size ≤ i → i < W1.heap.size → W2.heap[i]? = W1.heap[i]? := fun i hi hlt => s2.kept.block i hlt (by show i ≠ w.heap.size; omega)
  have k3 : ∀ i, X.heap.size ≤ i → i < W2.heap.size → W3.heap[i]? = W2.heap[i]? := fun i hi hlt => hk.block i hlt (by omega)
  refine ⟨rfl, lb, rb, { n with ca := ca, va := some ⟨g, 0, none⟩, vn := zs.length, vc := cap }, ln', rn', by omega, by omega, h1, (k3 lb hl1 (by omega)).trans ((k2 lb hl1 hlb).trans hl2), (k3 rb (by omega) hrb).trans hr2, ⟨rfl, FvNew.mono (B := W2.heap.size) ⟨g, cap, rfl, hg, ho⟩ (by omega), ?_⟩, ((hl3.keep k2).keep k3).lower (by omega), (hr3.keep (fun i hi hlt => k3 i (by omega) hlt)).lower (by omega), ?_, ?_⟩
  · cases c with
    | none => exact h2
    | some t =>
      obtain ⟨q, a1, a2, a3⟩ := h2
      exact ⟨q, by omega, a2, a3⟩
  · exact ⟨hk.os.trans (s2.kept.os.trans (s1.kept.os.trans hX.os)), hk.tape.trans (s2.kept.tape.trans (s1.kept.tape.trans hX.tape)), hk.output.trans (s2.kept.output.trans (s1.kept.output.trans hX.output)), by have := hX.size; have := hk.size; omega, fun i hi hS =>
      (hk.block i (by omega) (by omega)).trans ((s2.kept.block i (by omega) (by show i ≠ w.heap.size; omega)).trans ((s1.kept.block i (by omega) (by show i ≠ w.heap.size; omega)).trans (hX.block i hi hS)))⟩
  · show W3.heap[pb]? = _
    rw [hk.block pb (by omega) (by omega), s2.kept.block pb (by omega) (by show pb ≠ w.heap.size; omega), s1.kept.block pb (by omega) (by show pb ≠ w.heap.size; omega)]
    exact hXp

set_option maxHeartbeats 3200000 in
set_option maxRecDepth 1000000 in
theorem clone_bin (pb po b lb rb : Nat) (fo : Option Addr) (fn fc : Nat) (n : NBase) (op : Int) (zs : List ByteArray) (c : Option ByteArray) (lid : ByteArray) (ln : NBase) (lz : List ByteArray) (lc : Option ByteArray) (rid : ByteArray) (rn : NBase) (rz : List ByteArray) (rc : Option ByteArray) (w : World)
    (hp : w.cell? ⟨pb, po, none⟩ = some (.iface 81 (.pointer (some ⟨b, 0, none⟩)))) (hf : w.frozen? ⟨pb, po, none⟩ = false)
    (hb : w.heap[b]? = some (.cells (binCells (.iface 40 (.pointer (some ⟨rb, 0, none⟩))) (.iface 40 (.pointer (some ⟨lb, 0, none⟩))) fo fn fc n op) 85 (0, 0))) (hne : pb ≠ b) (hn : NBok w n zs c)
    (hl : w.heap[lb]? = some (.cells (varCells lid ln) 43 (0, 0))) (hnl : pb ≠ lb) (hln : NBok w ln lz lc) (hr : w.heap[rb]? = some (.cells (varCells rid rn) 43 (0, 0))) (hnr : pb ≠ rb) (hrn : NBok w rn rz rc) :
    Calls Tryf.prog 43 #[.pointer (some ⟨pb, po, none⟩)] w (BinNew ⟨pb, po, none⟩ fo fn fc n op zs c lid ln lz lc rid rn rz rc w) := by
  have hT : 85 ≠ 43 ∧ 85 ≠ 39 := by decide
  have HN := Lib.hid hn
  have HP := Lib.hid hp
  have HL := Lib.hid hl
  have HR := Lib.hid hr
  have HLN := Lib.hid hln
  have HRN := Lib.hid hrn
  have hlt : b < w.heap.size := (Array.getElem?_eq_some_iff.1 hb).1
  have hltp : pb < w.heap.size := World.block_lt_of_cell? w ⟨pb, po, none⟩ hp
  have v0 : w.cell? ⟨b, 0, none⟩ = some (.iface 40 (.pointer (some ⟨rb, 0, none⟩))) := (cell_of_row w b 0 _ _ _ hb).trans rfl
  have v1 : w.cell? ⟨b, 1, none⟩ = some (.iface 40 (.pointer (some ⟨lb, 0, none⟩))) := (cell_of_row w b 1 _ _ _ hb).trans rfl
  have v2 : w.cell? ⟨b, 2, none⟩ = some (.slice fo fn fc) := (cell_of_row w b 2 _ _ _ hb).trans rfl
  have v3 : w.cell? ⟨b, 3, none⟩ = some (.slice n.fa n.fn n.fc) := (cell_of_row w b 3 _ _ _ hb).trans rfl
  have v4 : w.cell? ⟨b, 4, none⟩ = some (.pointer n.ca) := (cell_of_row w b 4 _ _ _ hb).trans rfl
  have v5 : w.cell? ⟨b, 5, none⟩ = some (.slice n.va n.vn n.vc) := (cell_of_row w b 5 _ _ _ hb).trans rfl
  have v6 : w.cell? ⟨b, 6, none⟩ = some (.pointer n.fp) := (cell_of_row w b 6 _ _ _ hb).trans rfl
  have v7 : w.cell? ⟨b, 7, none⟩ = some (.string n.nm) := (cell_of_row w b 7 _ _ _ hb).trans rfl
  have v8 : w.cell? ⟨b, 8, none⟩ = some (.int .i64 n.bl) := (cell_of_row w b 8 _ _ _ hb).trans rfl
  have v9 : w.cell? ⟨b, 9, none⟩ = some (.int .i64 n.bc) := (cell_of_row w b 9 _ _ _ hb).trans rfl
  have v10 : w.cell? ⟨b, 10, none⟩ = some (.int .i64 n.el) := (cell_of_row w b 10 _ _ _ hb).trans rfl
  have v11 : w.cell? ⟨b, 11, none⟩ = some (.int .i64 n.ec) := (cell_of_row w b 11 _ _ _ hb).trans rfl
  have v12 : w.cell? ⟨b, 12, none⟩ = some (.int .i64 op) := (cell_of_row w b 12 _ _ _ hb).trans rfl
  clear hb hn hl hr hln hrn
  go_enter Tryf.func43, Tryf.ntmps43
  go_wp2_with fail
  have hX : ((w.setCell ⟨pb, po, none⟩ (.iface 81 (.pointer (some ⟨w.heap.size, 0, none⟩)))).alloc (.cells (binCells (.iface 40 (.pointer (some ⟨rb, 0, none⟩))) (.iface 40 (.pointer (some ⟨lb, 0, none⟩))) fo fn fc n op) 85 (0, 0))).heap[w.heap.size]? = some (.cells (binCells (.iface 40 (.pointer (some ⟨rb, 0, none⟩))) (.iface 40 (.pointer (some ⟨lb, 0, none⟩))) fo fn fc n op) 85 (0, 0)) := by
    have := heap_alloc_new (w.setCell ⟨pb, po, none⟩ (.iface 81 (.pointer (some ⟨w.heap.size, 0, none⟩)))) (.cells (binCells (.iface 40 (.pointer (some ⟨rb, 0, none⟩))) (.iface 40 (.pointer (some ⟨lb, 0, none⟩))) fo fn fc n op) 85 (0, 0))
    rwa [show (w.setCell ⟨pb, po, none⟩ (.iface 81 (.pointer (some ⟨w.heap.size, 0, none⟩)))).heap.size = w.heap.size by simp [World.setCell]] at this
  have hXs : ((w.setCell ⟨pb, po, none⟩ (.iface 81 (.pointer (some ⟨w.heap.size, 0, none⟩)))).alloc (.cells (binCells (.iface 40 (.pointer (some ⟨rb, 0, none⟩))) (.iface 40 (.pointer (some ⟨lb, 0, none⟩))) fo fn fc n op) 85 (0, 0))).heap.size = w.heap.size + 1 := by simp [World.setCell]
  have hXk : Kept (fun i => i = pb) w ((w.setCell ⟨pb, po, none⟩ (.iface 81 (.pointer (some ⟨w.heap.size, 0, none⟩)))).alloc (.cells (binCells (.iface 40 (.pointer (some ⟨rb, 0, none⟩))) (.iface 40 (.pointer (some ⟨lb, 0, none⟩))) fo fn fc n op) 85 (0, 0))) := (Kept.setCell w ⟨pb, po, none⟩ _).trans (Kept.ofBelow ((Below.refl _ _).alloc (Nat.le_refl _) _))
  have hXp : ((w.setCell ⟨pb, po, none⟩ (.iface 81 (.pointer (some ⟨w.heap.size, 0, none⟩)))).alloc (.cells (binCells (.iface 40 (.pointer (some ⟨rb, 0, none⟩))) (.iface 40 (.pointer (some ⟨lb, 0, none⟩))) fo fn fc n op) 85 (0, 0))).heap[pb]? = (w.setCell ⟨pb, po, none⟩ (.iface 81 (.pointer (some ⟨w.heap.size, 0, none⟩)))).heap[pb]? := Below.heap_alloc _ _ pb (by simp [World.setCell]; omega)
  have hXl := old_keep (v := .iface 81 (.pointer (some ⟨w.heap.size, 0, none⟩))) (o := .cells (binCells (.iface 40 (.pointer (some ⟨rb, 0, none⟩))) (.iface 40 (.pointer (some ⟨lb, 0, none⟩))) fo fn fc n op) 85 (0, 0)) hnl HL.out HP.out
  have hXr := old_keep (v := .iface 81 (.pointer (some ⟨w.heap.size, 0, none⟩))) (o := .cells (binCells (.iface 40 (.pointer (some ⟨rb, 0, none⟩))) (.iface 40 (.pointer (some ⟨lb, 0, none⟩))) fo fn fc n op) 85 (0, 0)) hnr HR.out HP.out
  have nX : NBok ((w.setCell ⟨pb, po, none⟩ (.iface 81 (.pointer (some ⟨w.heap.size, 0, none⟩)))).alloc (.cells (binCells (.iface 40 (.pointer (some ⟨rb, 0, none⟩))) (.iface 40 (.pointer (some ⟨lb, 0, none⟩))) fo fn fc n op) 85 (0, 0))) n zs c := nb_keep (fun s h => by cases h) HP.out HN.out
  have nXl : NBok ((w.setCell ⟨pb, po, none⟩ (.iface 81 (.pointer (some ⟨w.heap.size, 0, none⟩)))).alloc (.cells (binCells (.iface 40 (.pointer (some ⟨rb, 0, none⟩))) (.iface 40 (.pointer (some ⟨lb, 0, none⟩))) fo fn fc n op) 85 (0, 0))) ln lz lc := nb_keep (fun s h => by cases h) HP.out HLN.out
  have nXr : NBok ((w.setCell ⟨pb, po, none⟩ (.iface 81 (.pointer (some ⟨w.heap.size, 0, none⟩)))).alloc (.cells (binCells (.iface 40 (.pointer (some ⟨rb, 0, none⟩))) (.iface 40 (.pointer (some ⟨lb, 0, none⟩))) fo fn fc n op) 85 (0, 0))) rn rz rc := nb_keep (fun s h => by cases h) HP.out HRN.out
  change Calls Tryf.prog 43 #[.pointer (some ⟨w.heap.size, 1, none⟩)] ((w.setCell ⟨pb, po, none⟩ (.iface 81 (.pointer (some ⟨w.heap.size, 0, none⟩)))).alloc (.cells (binCells (.iface 40 (.pointer (some ⟨rb, 0, none⟩))) (.iface 40 (.pointer (some ⟨lb, 0, none⟩))) fo fn fc n op) 85 (0, 0))) _
  generalize ((w.setCell ⟨pb, po, none⟩ (.iface 81 (.pointer (some ⟨w.heap.size, 0, none⟩)))).alloc (.cells (binCells (.iface 40 (.pointer (some ⟨rb, 0, none⟩))) (.iface 40 (.pointer (some ⟨lb, 0, none⟩))) fo fn fc n op) 85 (0, 0))) = X at hX hXs hXk hXp hXl hXr nX nXl nXr
  have x1 : X.cell? ⟨w.heap.size, 1, none⟩ = some (.iface 40 (.pointer (some ⟨lb, 0, none⟩))) := (cell_of_row X _ 1 _ _ _ hX).trans rfl
  have X1 := Lib.hid x1
  have HX := Lib.hid hX
  have HXS := Lib.hid (And.intro hXs (And.intro hXk hXp))
  have LR : LeafAt X (.iface 40 (.pointer (some ⟨rb, 0, none⟩))) (.var rid rn rz rc) := ⟨rb, rfl, hXr, nXr⟩
  have LL : LeafAt X (.iface 40 (.pointer (some ⟨lb, 0, none⟩))) (.var lid ln lz lc) := ⟨lb, rfl, hXl, nXl⟩
  have HLR := Lib.hid LR
  have HLL := Lib.hid LL
  have HNX := Lib.hid nX
  clear x1 hX hXs hXk hXp hXl hXr nX nXl nXr LR LL v0 v1 v2 v3 v4 v5 v6 v7 v8 v9 v10 v11 v12 hp hf
  refine (clone_leaf w.heap.size 1 _ _ X X1.out (frozen_of HX.out 1) HLL.out HX.out hT).mono ?_
  rintro e W1 ⟨rfl, v1, s1, l1⟩
  have hW1 : W1.heap[w.heap.size]? = some (.cells (binCells (.iface 40 (.pointer (some ⟨rb, 0, none⟩))) v1 fo fn fc n op) 85 (0, 0)) := s1.self.trans ((Lib.heap_setCell_same HX.out _).trans (by simp [binCells]))
  have lr1 := HLR.out.set1 s1 X1.out (fun s h => by cases h) HX.out hT
  have n1 := HNX.out.set1 s1 X1.out (fun s h => by cases h)
  have x0 : W1.cell? ⟨w.heap.size, 0, none⟩ = some (.iface 40 (.pointer (some ⟨rb, 0, none⟩))) := (cell_of_row W1 _ 0 _ _ _ hW1).trans rfl
  have HW1 := Lib.hid hW1
  have S1 := Lib.hid s1
  have L1 := Lib.hid l1
  have LR1 := Lib.hid lr1
  have N1 := Lib.hid n1
  have X0 := Lib.hid x0
  clear hW1 s1 l1 lr1 n1 x0
  go_wp2_with fail
  refine (clone_leaf w.heap.size 0 _ _ W1 X0.out (frozen_of HW1.out 0) LR1.out HW1.out hT).mono ?_
  rintro e W2 ⟨rfl, v0, s2, l0⟩
  have hW2 : W2.heap[w.heap.size]? = some (.cells (binCells v0 v1 fo fn fc n op) 85 (0, 0)) := s2.self.trans ((Lib.heap_setCell_same HW1.out _).trans (by simp [binCells]))
  have n2 := N1.out.set1 s2 X0.out (fun s h => by cases h)
  have hp2 : W2.cell? ⟨pb, po, none⟩ = some (.iface 81 (.pointer (some ⟨w.heap.size, 0, none⟩))) := by
    have z1 := S1.out.kept.size
    have hz := HXS.out.1
    rw [World.cell?_of_block (a := ⟨pb, po, none⟩) ((s2.kept.block pb (by omega) (by show pb ≠ w.heap.size; omega)).trans ((S1.out.kept.block pb (by omega) (by show pb ≠ w.heap.size; omega)).trans HXS.out.2.2))]
    exact World.cell?_setCell_same _ _ _ HP.out
  have HW2 := Lib.hid hW2
  have S2 := Lib.hid s2
  have L0 := Lib.hid l0
  have N2 := Lib.hid n2
  clear hW2 s2 l0 n2
  go_wp2_with fail
  refine (cloneNB 81 3 w.heap.size nodeBin _ _ n zs c _ HW2.out rfl rfl N2.out).mono ?_
  rintro e W3 h
  obtain ⟨rfl, h'⟩ := h
  have H := Lib.hid h'
  clear h'
  go_wp2
  go_end0
  exact bin_end hltp HXS.out.2.1 HXS.out.1 HXS.out.2.2 S1.out L1.out S2.out L0.out ⟨rfl, H.out⟩

end Go.Proofs.YtgmmbimbbkbjfaaFmt
