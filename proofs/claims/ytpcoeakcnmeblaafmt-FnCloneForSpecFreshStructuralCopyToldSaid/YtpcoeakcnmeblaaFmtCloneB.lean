/-
  clone at nil, at a variable, at a string literal.
-/
import Derived.Test.YtpcoeakcnmeblaaFmtCloneA2
import Derived.Test.YtpcoeakcnmeblaaFmtCloneAs
namespace Go.Proofs.YtpcoeakcnmeblaaFmt
open Go Go.RowKit

/-- The nine cells of a NodeBase. -/
structure NBase where
  fa : Option Addr
  fn : Nat
  fc : Nat
  ca : Option Addr
  va : Option Addr
  vn : Nat
  vc : Nat
  fp : Option Addr
  nm : ByteArray
  bl : Int
  bc : Int
  el : Int
  ec : Int
def varCells (id : ByteArray) (n : NBase) : Array Value := #[.string id, .slice n.fa n.fn n.fc, .pointer n.ca, .slice n.va n.vn n.vc, .pointer n.fp, .string n.nm, .int .i64 n.bl, .int .i64 n.bc, .int .i64 n.el, .int .i64 n.ec]
def litCells (v b1 b2 : ByteArray) (kd : Int) (n : NBase) : Array Value := #[.string v, .string b1, .string b2, .slice n.fa n.fn n.fc, .pointer n.ca, .slice n.va n.vn n.vc, .pointer n.fp, .string n.nm, .int .i64 n.bl, .int .i64 n.bc, .int .i64 n.el, .int .i64 n.ec, .int .i64 kd]

/-- A NodeBase whose free variables and context read so. -/
structure NBok (w : World) (n : NBase) (zs : List ByteArray) (c : Option ByteArray) : Prop where
  fv : StrsAt w w.heap.size (.slice n.va n.vn n.vc) zs
  len : zs.length = n.vn
  le : n.vn ≤ 1048576
  ctx : CtxIs w n.ca c
/-- Its copy. -/
structure NBnew (B : Nat) (w : World) (n n' : NBase) (zs : List ByteArray) (c : Option ByteArray) : Prop where
  eq : n' = { n with ca := n'.ca, va := n'.va, vn := n'.vn, vc := n'.vc }
  fv : FvNew B w (.slice n'.va n'.vn n'.vc) zs
  ctx : CtxNew B w n'.ca c

/-- One cell has turned; all else that was there is as it was. -/
structure Set1 (w w' : World) (p : Addr) (v : Value) : Prop where
  kept : Kept (fun i => i = p.block) w w'
  self : w'.heap[p.block]? = (w.setCell p v).heap[p.block]?

theorem cloneNB (T : TypeId) (k b : Nat) (hT : NodeT T k) (C : Array Value) (tb : TypeId) (n : NBase) (zs : List ByteArray) (c : Option ByteArray) (w : World) (hb : w.heap[b]? = some (.cells C tb (0, 0)))
    (h1 : C[k + 1]? = some (.pointer n.ca)) (h2 : C[k + 2]? = some (.slice n.va n.vn n.vc)) (hn : NBok w n zs c) :
    Calls Tryf.prog 20 #[.iface T (.pointer (some ⟨b, 0, none⟩))] w (NBPost b k C tb zs c w) := by
  cases c with
  | none =>
    have := hn.ctx
    rw [show n.ca = none from this] at h1
    exact cloneNB_none T k b hT C tb n.va n.vn n.vc zs w hb h1 h2 hn.fv hn.len hn.le
  | some t =>
    obtain ⟨q, hq, hc⟩ := hn.ctx
    rw [hq] at h1
    exact cloneNB_some T k b hT C tb q t n.va n.vn n.vc zs w hb h1 h2 hc hn.fv hn.len hn.le

set_option maxHeartbeats 1600000 in
set_option maxRecDepth 1000000 in
theorem clone_nil (p : Addr) (w : World) (hp : w.cell? p = some .nilIface) :
    Calls Tryf.prog 14 #[.pointer (some p)] w fun e w' => e = .returned (.tuple #[]) ∧ w = w' := by
  go_enter Tryf.func14, Tryf.ntmps14
  go_wp2
  refine bodyPost_ret (v := .tuple #[]) (by simp [results, Tryf.results14]) rfl ?_
  exact ⟨rfl, rfl⟩

/-- What clone leaves of a node of one NodeBase: a new block, its head the heap's old size. -/
def Cloned (cells : NBase → Array Value) (T tp : TypeId) (p : Addr) (n : NBase) (zs : List ByteArray) (c : Option ByteArray) (w : World) (e : Ending) (w' : World) : Prop :=
  e = .returned (.tuple #[]) ∧ ∃ n', w'.heap[w.heap.size]? = some (.cells (cells n') T (0, 0)) ∧ NBnew w.heap.size w' n n' zs c ∧ Set1 w w' p (.iface tp (.pointer (some ⟨w.heap.size, 0, none⟩)))

theorem nb_keep {w : World} {pb po : Nat} {u v : Value} {o : Obj} {n : NBase} {zs : List ByteArray} {c : Option ByteArray} (hu : ∀ s, u ≠ .string s) (hp : w.cell? ⟨pb, po, none⟩ = some u) (hn : NBok w n zs c) : NBok ((w.setCell ⟨pb, po, none⟩ v).alloc o) n zs c := by
  have hb : Below w.heap.size (w.setCell ⟨pb, po, none⟩ v) ((w.setCell ⟨pb, po, none⟩ v).alloc o) := (Below.refl _ _).alloc (by simp [World.setCell]) o
  have hk : ∀ (p : Addr) (z : ByteArray), w.cell? p = some (.string z) → p.block < w.heap.size → ((w.setCell ⟨pb, po, none⟩ v).alloc o).cell? p = some (.string z) := fun p z h hlt => by
    rw [hb.cell hlt, World.cell?_setCell_other _ _ _ _ (fun e => by rw [← e, hp] at h; exact hu z (Option.some.inj h))]
    exact h
  refine ⟨?_, hn.len, hn.le, ?_⟩
  · exact strs_keep (X := w) hn.fv (by simp [World.setCell]) (fun p z hlt h => hk p z h hlt) (Below.refl _ _)
  · have hc := hn.ctx
    cases c with
    | none => exact hc
    | some t =>
      obtain ⟨q, hq, h⟩ := hc
      exact ⟨q, hq, hk _ _ h (World.block_lt_of_cell? w ⟨q, 0, none⟩ h)⟩

theorem cloned_end {cells : NBase → Array Value} {T tp : TypeId} {pb po k : Nat} {n : NBase} {zs : List ByteArray} {c : Option ByteArray} {w w' : World}
    (hcells : ∀ ca va vn vc, ((cells n).setIfInBounds (k + 1) (.pointer ca)).setIfInBounds (k + 2) (.slice va vn vc) = cells { n with ca := ca, va := va, vn := vn, vc := vc }) (hltp : pb < w.heap.size)
    (h : NBPost w.heap.size k (cells n) T zs c ((w.setCell ⟨pb, po, none⟩ (.iface tp (.pointer (some ⟨w.heap.size, 0, none⟩)))).alloc (.cells (cells n) T (0, 0))) (.returned (.tuple #[])) w') :
    Cloned cells T tp ⟨pb, po, none⟩ n zs c w (.returned (.tuple #[])) w' := by
  obtain ⟨_, ca, fv, h1, h2, ⟨g, cap, rfl, hg, ho⟩, hk⟩ := h
  have hs : ((w.setCell ⟨pb, po, none⟩ (.iface tp (.pointer (some ⟨w.heap.size, 0, none⟩)))).alloc (.cells (cells n) T (0, 0))).heap.size = w.heap.size + 1 := by simp [World.setCell]
  rw [hs] at h2 hg ho
  rw [hcells] at h1
  have hfv : FvNew w.heap.size w' (.slice (some ⟨g, 0, none⟩) zs.length cap) zs := FvNew.mono (B := w.heap.size + 1) ⟨g, cap, rfl, hg, ho⟩ (by omega)
  refine ⟨rfl, _, h1, ⟨rfl, hfv, ?_⟩, ?_, ?_⟩
  · cases c with
    | none => exact h2
    | some t =>
      obtain ⟨q, a1, a2, a3⟩ := h2
      exact ⟨q, by omega, a2, a3⟩
  · have k1 : Kept (fun i => i = pb) w (w.setCell ⟨pb, po, none⟩ (.iface tp (.pointer (some ⟨w.heap.size, 0, none⟩)))) := Kept.setCell w ⟨pb, po, none⟩ _
    have k2 : Kept (fun i => i = pb) (w.setCell ⟨pb, po, none⟩ (.iface tp (.pointer (some ⟨w.heap.size, 0, none⟩)))) ((w.setCell ⟨pb, po, none⟩ (.iface tp (.pointer (some ⟨w.heap.size, 0, none⟩)))).alloc (.cells (cells n) T (0, 0))) := Kept.ofBelow ((Below.refl _ _).alloc (Nat.le_refl _) _)
    have k3 := k1.trans k2
    exact ⟨hk.os.trans k3.os, hk.tape.trans k3.tape, hk.output.trans k3.output, Nat.le_trans k3.size hk.size, fun i hi hS => (hk.block i (by omega) (by omega)).trans (k3.block i hi hS)⟩
  · show w'.heap[pb]? = _
    rw [hk.block pb (by omega) (by omega), Below.heap_alloc _ _ pb (by simp [World.setCell]; omega)]

set_option maxHeartbeats 1600000 in
set_option maxRecDepth 1000000 in
theorem clone_var (pb po b : Nat) (id : ByteArray) (n : NBase) (zs : List ByteArray) (c : Option ByteArray) (w : World) (hp : w.cell? ⟨pb, po, none⟩ = some (.iface 47 (.pointer (some ⟨b, 0, none⟩)))) (hf : w.frozen? ⟨pb, po, none⟩ = false)
    (hb : w.heap[b]? = some (.cells (varCells id n) 66 (0, 0))) (hne : pb ≠ b) (hn : NBok w n zs c) :
    Calls Tryf.prog 14 #[.pointer (some ⟨pb, po, none⟩)] w (Cloned (varCells id) 66 47 ⟨pb, po, none⟩ n zs c w) := by
  have HN := Lib.hid hn
  have HP := Lib.hid hp
  have hlt : b < w.heap.size := (Array.getElem?_eq_some_iff.1 hb).1
  have hltp : pb < w.heap.size := World.block_lt_of_cell? w ⟨pb, po, none⟩ hp
  have v0 : w.cell? ⟨b, 0, none⟩ = some (.string id) := (cell_of_row w b 0 _ _ _ hb).trans rfl
  have v1 : w.cell? ⟨b, 1, none⟩ = some (.slice n.fa n.fn n.fc) := (cell_of_row w b 1 _ _ _ hb).trans rfl
  have v2 : w.cell? ⟨b, 2, none⟩ = some (.pointer n.ca) := (cell_of_row w b 2 _ _ _ hb).trans rfl
  have v3 : w.cell? ⟨b, 3, none⟩ = some (.slice n.va n.vn n.vc) := (cell_of_row w b 3 _ _ _ hb).trans rfl
  have v4 : w.cell? ⟨b, 4, none⟩ = some (.pointer n.fp) := (cell_of_row w b 4 _ _ _ hb).trans rfl
  have v5 : w.cell? ⟨b, 5, none⟩ = some (.string n.nm) := (cell_of_row w b 5 _ _ _ hb).trans rfl
  have v6 : w.cell? ⟨b, 6, none⟩ = some (.int .i64 n.bl) := (cell_of_row w b 6 _ _ _ hb).trans rfl
  have v7 : w.cell? ⟨b, 7, none⟩ = some (.int .i64 n.bc) := (cell_of_row w b 7 _ _ _ hb).trans rfl
  have v8 : w.cell? ⟨b, 8, none⟩ = some (.int .i64 n.el) := (cell_of_row w b 8 _ _ _ hb).trans rfl
  have v9 : w.cell? ⟨b, 9, none⟩ = some (.int .i64 n.ec) := (cell_of_row w b 9 _ _ _ hb).trans rfl
  clear hb hn
  go_enter Tryf.func14, Tryf.ntmps14
  go_wp2_with fail
  have hX : ((w.setCell ⟨pb, po, none⟩ (.iface 47 (.pointer (some ⟨w.heap.size, 0, none⟩)))).alloc (.cells (varCells id n) 66 (0, 0))).heap[w.heap.size]? = some (.cells (varCells id n) 66 (0, 0)) := by
    have := heap_alloc_new (w.setCell ⟨pb, po, none⟩ (.iface 47 (.pointer (some ⟨w.heap.size, 0, none⟩)))) (.cells (varCells id n) 66 (0, 0))
    rwa [show (w.setCell ⟨pb, po, none⟩ (.iface 47 (.pointer (some ⟨w.heap.size, 0, none⟩)))).heap.size = w.heap.size by simp [World.setCell]] at this
  refine (cloneNB 47 1 w.heap.size nodeVar (varCells id n) 66 n zs c _ hX rfl rfl (nb_keep (fun s h => by cases h) HP.out HN.out)).mono ?_
  rintro e w1 h
  obtain ⟨rfl, h'⟩ := h
  have H := Lib.hid h'
  clear h' hX
  go_wp2
  go_end0
  exact cloned_end (fun _ _ _ _ => rfl) hltp ⟨rfl, H.out⟩

set_option maxHeartbeats 1600000 in
set_option maxRecDepth 1000000 in
theorem clone_lit (pb po b : Nat) (v b1 b2 : ByteArray) (kd : Int) (n : NBase) (zs : List ByteArray) (c : Option ByteArray) (w : World) (hp : w.cell? ⟨pb, po, none⟩ = some (.iface 112 (.pointer (some ⟨b, 0, none⟩)))) (hf : w.frozen? ⟨pb, po, none⟩ = false)
    (hb : w.heap[b]? = some (.cells (litCells v b1 b2 kd n) 117 (0, 0))) (hne : pb ≠ b) (hn : NBok w n zs c) :
    Calls Tryf.prog 14 #[.pointer (some ⟨pb, po, none⟩)] w (Cloned (litCells v b1 b2 kd) 117 112 ⟨pb, po, none⟩ n zs c w) := by
  have HN := Lib.hid hn
  have HP := Lib.hid hp
  have hlt : b < w.heap.size := (Array.getElem?_eq_some_iff.1 hb).1
  have hltp : pb < w.heap.size := World.block_lt_of_cell? w ⟨pb, po, none⟩ hp
  have v0 : w.cell? ⟨b, 0, none⟩ = some (.string v) := (cell_of_row w b 0 _ _ _ hb).trans rfl
  have v1 : w.cell? ⟨b, 1, none⟩ = some (.string b1) := (cell_of_row w b 1 _ _ _ hb).trans rfl
  have v2 : w.cell? ⟨b, 2, none⟩ = some (.string b2) := (cell_of_row w b 2 _ _ _ hb).trans rfl
  have v3 : w.cell? ⟨b, 3, none⟩ = some (.slice n.fa n.fn n.fc) := (cell_of_row w b 3 _ _ _ hb).trans rfl
  have v4 : w.cell? ⟨b, 4, none⟩ = some (.pointer n.ca) := (cell_of_row w b 4 _ _ _ hb).trans rfl
  have v5 : w.cell? ⟨b, 5, none⟩ = some (.slice n.va n.vn n.vc) := (cell_of_row w b 5 _ _ _ hb).trans rfl
  have v6 : w.cell? ⟨b, 6, none⟩ = some (.pointer n.fp) := (cell_of_row w b 6 _ _ _ hb).trans rfl
  have v7 : w.cell? ⟨b, 7, none⟩ = some (.string n.nm) := (cell_of_row w b 7 _ _ _ hb).trans rfl
  have v8 : w.cell? ⟨b, 8, none⟩ = some (.int .i64 n.bl) := (cell_of_row w b 8 _ _ _ hb).trans rfl
  have v9 : w.cell? ⟨b, 9, none⟩ = some (.int .i64 n.bc) := (cell_of_row w b 9 _ _ _ hb).trans rfl
  have v10 : w.cell? ⟨b, 10, none⟩ = some (.int .i64 n.el) := (cell_of_row w b 10 _ _ _ hb).trans rfl
  have v11 : w.cell? ⟨b, 11, none⟩ = some (.int .i64 n.ec) := (cell_of_row w b 11 _ _ _ hb).trans rfl
  have v12 : w.cell? ⟨b, 12, none⟩ = some (.int .i64 kd) := (cell_of_row w b 12 _ _ _ hb).trans rfl
  clear hb hn
  go_enter Tryf.func14, Tryf.ntmps14
  go_wp2_with fail
  have hX : ((w.setCell ⟨pb, po, none⟩ (.iface 112 (.pointer (some ⟨w.heap.size, 0, none⟩)))).alloc (.cells (litCells v b1 b2 kd n) 117 (0, 0))).heap[w.heap.size]? = some (.cells (litCells v b1 b2 kd n) 117 (0, 0)) := by
    have := heap_alloc_new (w.setCell ⟨pb, po, none⟩ (.iface 112 (.pointer (some ⟨w.heap.size, 0, none⟩)))) (.cells (litCells v b1 b2 kd n) 117 (0, 0))
    rwa [show (w.setCell ⟨pb, po, none⟩ (.iface 112 (.pointer (some ⟨w.heap.size, 0, none⟩)))).heap.size = w.heap.size by simp [World.setCell]] at this
  refine (cloneNB 112 3 w.heap.size nodeLit (litCells v b1 b2 kd n) 117 n zs c _ hX rfl rfl (nb_keep (fun s h => by cases h) HP.out HN.out)).mono ?_
  rintro e w1 h
  obtain ⟨rfl, h'⟩ := h
  have H := Lib.hid h'
  clear h' hX
  go_wp2
  go_end0
  exact cloned_end (fun _ _ _ _ => rfl) hltp ⟨rfl, H.out⟩


end Go.Proofs.YtpcoeakcnmeblaaFmt
