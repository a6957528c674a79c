/-
  clone at a Function without a list of parameters; Clone of a Function.
-/
import Derived.Test.YtegabjiaekfmbaaFmtFnB
namespace Go.Proofs.YtegabjiaekfmbaaFmt
open Go Go.RowKit

set_option maxHeartbeats 3200000 in
set_option maxRecDepth 1000000 in
theorem clone_fn_none (pb po b : Nat) (v : Value) (x : Leaf) (n : NBase) (zs : List ByteArray) (c : Option ByteArray) (w : World)
    (hp : w.cell? ⟨pb, po, none⟩ = some (.iface 69 (.pointer (some ⟨b, 0, none⟩)))) (hf : w.frozen? ⟨pb, po, none⟩ = false)
    (hb : w.heap[b]? = some (.cells (fnCells v none 0 0 n) 80 (0, 0))) (hne : pb ≠ b) (hn : NBok w n zs c)
    (hx : LeafAt w v x) {CP : Array Value} {TP : TypeId} (hbp : w.heap[pb]? = some (.cells CP TP (0, 0))) (hT : TP ≠ 60 ∧ TP ≠ 75) :
    Calls Tryf.prog 49 #[.pointer (some ⟨pb, po, none⟩)] w (ClonedFn ⟨pb, po, none⟩ x none n zs c w) := by
  have HN := Lib.hid hn
  have HP := Lib.hid hp
  have HX := Lib.hid hx
  have HBP := Lib.hid hbp
  have hlt : b < w.heap.size := (Array.getElem?_eq_some_iff.1 hb).1
  have hltp : pb < w.heap.size := World.block_lt_of_cell? w ⟨pb, po, none⟩ hp
  have v0 : w.cell? ⟨b, 0, none⟩ = some (.slice none 0 0) := (cell_of_row w b 0 _ _ _ hb).trans rfl
  have v1 : w.cell? ⟨b, 1, none⟩ = some (.slice none 0 0) := (cell_of_row w b 1 _ _ _ hb).trans rfl
  have v2 : w.cell? ⟨b, 2, none⟩ = some (v) := (cell_of_row w b 2 _ _ _ hb).trans rfl
  have v3 : w.cell? ⟨b, 3, none⟩ = some (.slice none 0 0) := (cell_of_row w b 3 _ _ _ hb).trans rfl
  have v4 : w.cell? ⟨b, 4, none⟩ = some (.slice n.fa n.fn n.fc) := (cell_of_row w b 4 _ _ _ hb).trans rfl
  have v5 : w.cell? ⟨b, 5, none⟩ = some (.pointer n.ca) := (cell_of_row w b 5 _ _ _ hb).trans rfl
  have v6 : w.cell? ⟨b, 6, none⟩ = some (.slice n.va n.vn n.vc) := (cell_of_row w b 6 _ _ _ hb).trans rfl
  have v7 : w.cell? ⟨b, 7, none⟩ = some (.pointer n.fp) := (cell_of_row w b 7 _ _ _ hb).trans rfl
  have v8 : w.cell? ⟨b, 8, none⟩ = some (.string n.nm) := (cell_of_row w b 8 _ _ _ hb).trans rfl
  have v9 : w.cell? ⟨b, 9, none⟩ = some (.int .i64 n.bl) := (cell_of_row w b 9 _ _ _ hb).trans rfl
  have v10 : w.cell? ⟨b, 10, none⟩ = some (.int .i64 n.bc) := (cell_of_row w b 10 _ _ _ hb).trans rfl
  have v11 : w.cell? ⟨b, 11, none⟩ = some (.int .i64 n.el) := (cell_of_row w b 11 _ _ _ hb).trans rfl
  have v12 : w.cell? ⟨b, 12, none⟩ = some (.int .i64 n.ec) := (cell_of_row w b 12 _ _ _ hb).trans rfl
  have v13 : w.cell? ⟨b, 13, none⟩ = some (.bool false) := (cell_of_row w b 13 _ _ _ hb).trans rfl
  have q1 : ∀ (w : World) (a : Option Addr) (n c n' c' : Nat), (binOp .neq 78 (.slice a n c) (.slice none n' c')).run Tryf.prog w = .ok (.bool (!a.isNone)) w := fun w a n c n' c' => run_neq_slice_nil_any w _ _ a n c n' c' Tryf.underlying78
  have hst := store_body v hx.shape w pb po (.iface 69 (.pointer (some ⟨w.heap.size, 0, none⟩)))
  clear hb hn hx hbp
  go_enter Tryf.func49, Tryf.ntmps49
  go_wp2_with fail
  have hXs : ((w.setCell ⟨pb, po, none⟩ (.iface 69 (.pointer (some ⟨w.heap.size, 0, none⟩)))).alloc (.cells (fnCells v none 0 0 n) 80 (0, 0))).heap.size = w.heap.size + 1 := by simp [World.setCell]
  have hX : ((w.setCell ⟨pb, po, none⟩ (.iface 69 (.pointer (some ⟨w.heap.size, 0, none⟩)))).alloc (.cells (fnCells v none 0 0 n) 80 (0, 0))).heap[w.heap.size]? = some (.cells (fnCells v none 0 0 n) 80 (0, 0)) := by
    have := heap_alloc_new (w.setCell ⟨pb, po, none⟩ (.iface 69 (.pointer (some ⟨w.heap.size, 0, none⟩)))) (.cells (fnCells v none 0 0 n) 80 (0, 0))
    rwa [show (w.setCell ⟨pb, po, none⟩ (.iface 69 (.pointer (some ⟨w.heap.size, 0, none⟩)))).heap.size = w.heap.size by simp [World.setCell]] at this
  have hXk : Kept (fun i => i = pb) w ((w.setCell ⟨pb, po, none⟩ (.iface 69 (.pointer (some ⟨w.heap.size, 0, none⟩)))).alloc (.cells (fnCells v none 0 0 n) 80 (0, 0))) := (Kept.setCell w ⟨pb, po, none⟩ _).trans (Kept.ofBelow ((Below.refl _ _).alloc (Nat.le_refl _) _))
  have hXp : ((w.setCell ⟨pb, po, none⟩ (.iface 69 (.pointer (some ⟨w.heap.size, 0, none⟩)))).alloc (.cells (fnCells v none 0 0 n) 80 (0, 0))).heap[pb]? = (w.setCell ⟨pb, po, none⟩ (.iface 69 (.pointer (some ⟨w.heap.size, 0, none⟩)))).heap[pb]? := Below.heap_alloc _ _ pb (by simp [World.setCell]; omega)
  change Calls Tryf.prog _ _ ((w.setCell ⟨pb, po, none⟩ (.iface 69 (.pointer (some ⟨w.heap.size, 0, none⟩)))).alloc (.cells (fnCells v none 0 0 n) 80 (0, 0))) _
  generalize ((w.setCell ⟨pb, po, none⟩ (.iface 69 (.pointer (some ⟨w.heap.size, 0, none⟩)))).alloc (.cells (fnCells v none 0 0 n) 80 (0, 0))) = X at hX hXs hXk hXp ⊢
  have s1 : Set1 w X ⟨pb, po, none⟩ (.iface 69 (.pointer (some ⟨w.heap.size, 0, none⟩))) := ⟨hXk, hXp⟩
  have lX : LeafAt X v x := HX.out.set1 s1 HP.out (fun s h => by cases h) HBP.out hT
  have nX : NBok X n zs c := HN.out.set1 s1 HP.out (fun s h => by cases h)
  have HM : Hid (FnMid w.heap.size v x none 0 0 none n zs c X) := Lib.hid ⟨hX, lX, nX, rfl, rfl, rfl⟩
  have HK := Lib.hid hXk
  have HQ := Lib.hid hXp
  have hz : w.heap.size < X.heap.size := by omega
  clear hX hXs hXk hXp s1 lX nX v0 v1 v2 v3 v4 v5 v6 v7 v8 v9 v10 v11 v12 v13 hp hf hst
  have c2 : X.cell? ⟨w.heap.size, 2, none⟩ = some v := (cell_of_row _ _ 2 _ _ _ HM.out.row).trans rfl
  have C2 := Lib.hid c2
  clear c2
  refine (clone_leaf w.heap.size 2 v x X C2.out (frozen_of HM.out.row 2) HM.out.leaf HM.out.row (by decide)).mono ?_
  rintro e W1 ⟨rfl, v1, s1, l1⟩
  have hm := HM.out
  have hW1 : W1.heap[w.heap.size]? = some (.cells (fnCells v1 none 0 0 n) 80 (0, 0)) := s1.self.trans ((Lib.heap_setCell_same hm.row _).trans (by simp [fnCells]))
  have n1 := hm.base.set1 s1 C2.out hm.leaf.nostr
  have hp1 : W1.cell? ⟨pb, po, none⟩ = some (.iface 69 (.pointer (some ⟨w.heap.size, 0, none⟩))) := by
    rw [World.cell?_of_block (a := ⟨pb, po, none⟩) ((s1.kept.block pb (by omega) (by show pb ≠ w.heap.size; omega)).trans HQ.out)]
    exact World.cell?_setCell_same _ _ _ HP.out
  have HW1 := Lib.hid hW1
  have S1 := Lib.hid s1
  have L1 := Lib.hid l1
  have N1 := Lib.hid n1
  clear hm hW1 s1 l1 n1
  go_wp2_with fail
  refine (cloneNB 69 4 w.heap.size nodeFn _ _ n zs c _ HW1.out rfl rfl N1.out).mono ?_
  rintro e W3 h
  obtain ⟨rfl, h'⟩ := h
  have H := Lib.hid h'
  clear h'
  go_wp2
  go_end0
  exact fn_end hltp HK.out hz HQ.out HM.out S1.out L1.out ⟨rfl, H.out⟩

/-- A list of parameters as it reads. -/
def ParsAt (w : World) (pa : Option Addr) (pn pc : Nat) : Option (Nat × (Nat → ByteArray)) → Prop
  | none => pa = none ∧ pn = 0 ∧ pc = 0
  | some (k, ns) => ∃ L, pa = some ⟨L, 0, none⟩ ∧ pn = k ∧ ParRow w L k ns ∧ k ≤ 1048576
/-- A Function as it reads, without free variables and context. -/
def FnAt (w : World) (b : Nat) (x : Leaf) (ps : Option (Nat × (Nat → ByteArray))) (n : NBase) : Prop :=
  ∃ v pa pn pc, w.heap[b]? = some (.cells (fnCells v pa pn pc n) 80 (0, 0)) ∧ LeafAt w v x ∧ ParsAt w pa pn pc ps ∧ NBok w n [] none
def FnNew (B : Nat) (w : World) (b : Nat) (x : Leaf) (ps : Option (Nat × (Nat → ByteArray))) (n : NBase) : Prop :=
  ∃ v pa pn pc n', B ≤ b ∧ w.heap[b]? = some (.cells (fnCells v pa pn pc n') 80 (0, 0)) ∧ LeafNew B w v x ∧ ParsNew B w pa pn pc ps ∧ NBnew B w n n' [] none
theorem ParRow.belowN {w w' : World} {g n : Nat} {ns : Nat → ByteArray} (h : ParRow w g n ns) (hb : Below w.heap.size w w') : ParRow w' g n ns := h.keep (hb.block g h.lt)
theorem FnAt.belowN {w w' : World} {b : Nat} {x : Leaf} {ps : Option (Nat × (Nat → ByteArray))} {n : NBase} (h : FnAt w b x ps n) (hb : Below w.heap.size w w') : FnAt w' b x ps n := by
  obtain ⟨v, pa, pn, pc, h1, h2, h3, h4⟩ := h
  refine ⟨v, pa, pn, pc, (hb.block b (Array.getElem?_eq_some_iff.1 h1).1).trans h1, h2.belowN hb, ?_, h4.belowN hb⟩
  cases ps with
  | none => exact h3
  | some q =>
    obtain ⟨k, ns⟩ := q
    obtain ⟨L, e1, e2, e3, e4⟩ := h3
    exact ⟨L, e1, e2, e3.belowN hb, e4⟩
theorem ParsNew.keep {B : Nat} {w w' : World} {pa : Option Addr} {pn pc : Nat} {ps : Option (Nat × (Nat → ByteArray))} (h : ParsNew B w pa pn pc ps) (hk : ∀ i, B ≤ i → i < w.heap.size → w'.heap[i]? = w.heap[i]?) : ParsNew B w' pa pn pc ps := by
  cases ps with
  | none => exact h
  | some q =>
    obtain ⟨k, ns⟩ := q
    obtain ⟨g, e1, e2, e3, e4⟩ := h
    exact ⟨g, e1, e2, e3, e4.keep (hk g e3 e4.lt)⟩
theorem ParsNew.lower {B B' : Nat} {w : World} {pa : Option Addr} {pn pc : Nat} {ps : Option (Nat × (Nat → ByteArray))} (h : ParsNew B w pa pn pc ps) (hB : B' ≤ B) : ParsNew B' w pa pn pc ps := by
  cases ps with
  | none => exact h
  | some q =>
    obtain ⟨k, ns⟩ := q
    obtain ⟨g, e1, e2, e3, e4⟩ := h
    exact ⟨g, e1, e2, by omega, e4⟩
theorem FnNew.keep {B : Nat} {w w' : World} {b : Nat} {x : Leaf} {ps : Option (Nat × (Nat → ByteArray))} {n : NBase} (h : FnNew B w b x ps n) (hk : ∀ i, B ≤ i → i < w.heap.size → w'.heap[i]? = w.heap[i]?) : FnNew B w' b x ps n := by
  obtain ⟨v, pa, pn, pc, n', h1, h2, h3, h4, h5⟩ := h
  exact ⟨v, pa, pn, pc, n', h1, (hk b h1 (Array.getElem?_eq_some_iff.1 h2).1).trans h2, h3.keep hk, h4.keep hk, h5.keep hk⟩

/-- clone at a cell that holds a Function. -/
theorem clone_fn (pb po b : Nat) (x : Leaf) (ps : Option (Nat × (Nat → ByteArray))) (n : NBase) (w : World)
    (hp : w.cell? ⟨pb, po, none⟩ = some (.iface 69 (.pointer (some ⟨b, 0, none⟩)))) (hf : w.frozen? ⟨pb, po, none⟩ = false) (h : FnAt w b x ps n)
    {CP : Array Value} {TP : TypeId} (hbp : w.heap[pb]? = some (.cells CP TP (0, 0))) (hT : TP ≠ 60 ∧ TP ≠ 75 ∧ TP ≠ 80 ∧ TP ≠ 82) :
    Calls Tryf.prog 49 #[.pointer (some ⟨pb, po, none⟩)] w (ClonedFn ⟨pb, po, none⟩ x ps n [] none w) := by
  obtain ⟨v, pa, pn, pc, h1, h2, h3, h4⟩ := h
  have hne : pb ≠ b := fun e => by
    rw [e, h1] at hbp
    cases hbp
    exact hT.2.2.1 rfl
  cases ps with
  | none =>
    obtain ⟨rfl, rfl, rfl⟩ := h3
    exact clone_fn_none pb po b v x n [] none w hp hf h1 hne h4 h2 hbp ⟨hT.1, hT.2.1⟩
  | some q =>
    obtain ⟨k, ns⟩ := q
    obtain ⟨L, rfl, rfl, hr, hk⟩ := h3
    refine clone_fn_some pb po b v x L _ pc ns n [] none w hp hf h1 hne h4 h2 hr (fun e => ?_) hk hbp ⟨hT.1, hT.2.1⟩
    obtain ⟨C, hb, _⟩ := hr
    rw [e, hbp] at hb
    cases hb
    exact hT.2.2.2 rfl

set_option maxRecDepth 100000 in
theorem cloneFn (b : Nat) (x : Leaf) (ps : Option (Nat × (Nat → ByteArray))) (n : NBase) (w : World) (h : FnAt w b x ps n) :
    Calls Tryf.prog 45 #[.iface 69 (.pointer (some ⟨b, 0, none⟩))] w fun e w' => ∃ r, e = .returned (.iface 69 (.pointer (some ⟨r, 0, none⟩))) ∧ FnNew w.heap.size w' r x ps n ∧ Below w.heap.size w w' := by
  have H := Lib.hid h
  clear h
  go_enter Tryf.func45, Tryf.ntmps45
  go_wp2_with fail
  have hb1 : Below w.heap.size w (w.alloc (.cells #[.iface 69 (.pointer (some ⟨b, 0, none⟩))] 54 (0, 0))) := (Below.refl _ w).alloc (Nat.le_refl _) _
  have hX : (w.alloc (.cells #[.iface 69 (.pointer (some ⟨b, 0, none⟩))] 54 (0, 0))).heap[w.heap.size]? = some (.cells #[.iface 69 (.pointer (some ⟨b, 0, none⟩))] 54 (0, 0)) := heap_alloc_new w _
  have hsz : (w.alloc (.cells #[.iface 69 (.pointer (some ⟨b, 0, none⟩))] 54 (0, 0))).heap.size = w.heap.size + 1 := by simp
  generalize (w.alloc (.cells #[.iface 69 (.pointer (some ⟨b, 0, none⟩))] 54 (0, 0))) = X at hb1 hX hsz ⊢
  have hA : FnAt X b x ps n := H.out.belowN hb1
  refine (clone_fn w.heap.size 0 b x ps n X ((cell_of_row _ _ 0 _ _ _ hX).trans rfl) (frozen_of hX 0) hA hX (by decide)).mono ?_
  rintro e W2 ⟨rfl, v', pa, pn, pc, n', h1, h2, h3, h4, h5⟩
  have hc : W2.cell? ⟨w.heap.size, 0, none⟩ = some (.iface 69 (.pointer (some ⟨X.heap.size, 0, none⟩))) := by
    rw [World.cell?_of_block (a := ⟨w.heap.size, 0, none⟩) h5.self]
    exact World.cell?_setCell_same _ _ _ ((cell_of_row _ _ 0 _ _ _ hX).trans rfl)
  have F : FnNew w.heap.size W2 X.heap.size x ps n ∧ Below w.heap.size w W2 :=
    ⟨⟨v', pa, pn, pc, n', by omega, h1, h2.lower (by omega), h3.lower (by omega), h4.lower (by omega)⟩, hb1.trans (h5.kept.below (fun _ e => by subst e; exact Nat.le_refl _) (by omega))⟩
  have HF := Lib.hid F
  clear F h1 h2 h3 h4 h5 hA hX hb1
  go_wp2
  go_ret
  exact ⟨_, rfl, by have h := HF.out; rw [hsz] at h; exact h⟩

end Go.Proofs.YtegabjiaekfmbaaFmt
