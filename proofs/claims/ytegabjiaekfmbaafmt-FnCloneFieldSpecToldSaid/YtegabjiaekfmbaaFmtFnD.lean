/-
  cloneField.
-/
import Derived.Test.YtegabjiaekfmbaaFmtFnC
namespace Go.Proofs.YtegabjiaekfmbaaFmt
open Go Go.RowKit

/-- The cells of an ObjectField. -/
def fldCells (m i v1 v2 v3 : Value) (r : List Value) : Array Value := ⟨m :: i :: .slice none 0 0 :: .slice none 0 0 :: .slice none 0 0 :: .slice none 0 0 :: v1 :: v2 :: v3 :: r⟩
/-- A method: none, or a Function. -/
def MetAt (w : World) (m : Value) (n : NBase) : Option (Leaf × Option (Nat × (Nat → ByteArray))) → Prop
  | none => m = .pointer none
  | some (x, ps) => ∃ b, m = .pointer (some ⟨b, 0, none⟩) ∧ FnAt w b x ps n
def MetNew (B : Nat) (w : World) (m : Value) (n : NBase) : Option (Leaf × Option (Nat × (Nat → ByteArray))) → Prop
  | none => m = .pointer none
  | some (x, ps) => ∃ b, m = .pointer (some ⟨b, 0, none⟩) ∧ FnNew B w b x ps n
theorem MetNew.keep {B : Nat} {w w' : World} {m : Value} {n : NBase} {mo : Option (Leaf × Option (Nat × (Nat → ByteArray)))} (h : MetNew B w m n mo) (hk : ∀ i, B ≤ i → i < w.heap.size → w'.heap[i]? = w.heap[i]?) : MetNew B w' m n mo := by
  cases mo with
  | none => exact h
  | some q =>
    obtain ⟨b, h1, h2⟩ := h
    exact ⟨b, h1, h2.keep hk⟩
def FldPost (fb : Nat) (i : Value) (r : List Value) (n : NBase) (mo : Option (Leaf × Option (Nat × (Nat → ByteArray)))) (x1 x2 x3 : Leaf) (w : World) (e : Ending) (w' : World) : Prop :=
  e = .returned (.tuple #[]) ∧ ∃ m v1 v2 v3, w'.heap[fb]? = some (.cells (fldCells m i v1 v2 v3 r) 71 (0, 0)) ∧ MetNew w.heap.size w' m n mo ∧ LeafNew w.heap.size w' v1 x1 ∧ LeafNew w.heap.size w' v2 x2 ∧ LeafNew w.heap.size w' v3 x3 ∧ Kept (fun i => i = fb) w w'

set_option maxHeartbeats 800000 in
set_option maxRecDepth 100000 in
theorem cloneField (fb : Nat) (m i v1 v2 v3 : Value) (r : List Value) (n : NBase) (mo : Option (Leaf × Option (Nat × (Nat → ByteArray)))) (x1 x2 x3 : Leaf) (w : World) (hb : w.heap[fb]? = some (.cells (fldCells m i v1 v2 v3 r) 71 (0, 0))) (hm : MetAt w m n mo) (h1 : LeafAt w v1 x1) (h2 : LeafAt w v2 x2) (h3 : LeafAt w v3 x3) :
    Calls Tryf.prog 47 #[.pointer (some ⟨fb, 0, none⟩)] w (FldPost fb i r n mo x1 x2 x3 w) := by
  have hlt : fb < w.heap.size := (Array.getElem?_eq_some_iff.1 hb).1
  cases mo with
  | none =>
    obtain rfl : m = .pointer none := hm
    have c0 : w.cell? ⟨fb, 0, none⟩ = some (.pointer none) := (cell_of_row w fb 0 _ _ _ hb).trans rfl
    have HB := Lib.hid hb
    have HM : Hid (MetNew w.heap.size w (.pointer none) n none) := Lib.hid rfl
    have HK := Lib.hid (Kept.refl (fun i => i = fb) w)
    have L1 := Lib.hid h1
    have L2 := Lib.hid h2
    have L3 := Lib.hid h3
    clear hb h1 h2 h3
    go_enter Tryf.func47, Tryf.ntmps47
    go_wp2_with fail
    have ck : w.cell? ⟨fb, 6, none⟩ = some v1 := (cell_of_row _ _ 6 _ _ _ HB.out).trans rfl
    have CK1 := Lib.hid ck
    clear ck
    refine (clone_leaf fb 6 v1 x1 w CK1.out (frozen_of HB.out 6) L1.out HB.out (by decide)).mono ?_
    rintro e W1 ⟨rfl, u1, s1, n1⟩
    have A1 : Hid (W1.heap[fb]? = some (.cells (fldCells _ i u1 v2 v3 r) 71 (0, 0))) := Lib.hid (s1.self.trans ((Lib.heap_setCell_same HB.out _).trans (by simp [fldCells]; rfl)))
    have ks1 : ∀ i, w.heap.size ≤ i → i < w.heap.size → W1.heap[i]? = w.heap[i]? := fun i hi hl => s1.kept.block i hl (by show i ≠ fb; omega)
    have B1 := Lib.hid (HM.out.keep ks1)
    have K1 := Lib.hid (HK.out.trans s1.kept)
    have L2 := Lib.hid (L2.out.set1 s1 CK1.out L1.out.nostr HB.out (by decide))
    have L3 := Lib.hid (L3.out.set1 s1 CK1.out L1.out.nostr HB.out (by decide))
    have N1 := Lib.hid (n1.lower (B' := w.heap.size) HK.out.size)
    clear s1 n1 ks1
    go_wp2_with fail
    have ck : W1.cell? ⟨fb, 7, none⟩ = some v2 := (cell_of_row _ _ 7 _ _ _ A1.out).trans rfl
    have CK2 := Lib.hid ck
    clear ck
    refine (clone_leaf fb 7 v2 x2 W1 CK2.out (frozen_of A1.out 7) L2.out A1.out (by decide)).mono ?_
    rintro e W2 ⟨rfl, u2, s1, n1⟩
    have A2 : Hid (W2.heap[fb]? = some (.cells (fldCells _ i u1 u2 v3 r) 71 (0, 0))) := Lib.hid (s1.self.trans ((Lib.heap_setCell_same A1.out _).trans (by simp [fldCells]; rfl)))
    have ks2 : ∀ i, w.heap.size ≤ i → i < W1.heap.size → W2.heap[i]? = W1.heap[i]? := fun i hi hl => s1.kept.block i hl (by show i ≠ fb; omega)
    have B2 := Lib.hid (B1.out.keep ks2)
    have K2 := Lib.hid (K1.out.trans s1.kept)
    have L3 := Lib.hid (L3.out.set1 s1 CK2.out L2.out.nostr A1.out (by decide))
    have N1 := Lib.hid (N1.out.keep ks2)
    have N2 := Lib.hid (n1.lower (B' := w.heap.size) K1.out.size)
    clear s1 n1 ks2
    go_wp2_with fail
    have ck : W2.cell? ⟨fb, 8, none⟩ = some v3 := (cell_of_row _ _ 8 _ _ _ A2.out).trans rfl
    have CK3 := Lib.hid ck
    clear ck
    refine (clone_leaf fb 8 v3 x3 W2 CK3.out (frozen_of A2.out 8) L3.out A2.out (by decide)).mono ?_
    rintro e W3 ⟨rfl, u3, s1, n1⟩
    have A3 : Hid (W3.heap[fb]? = some (.cells (fldCells _ i u1 u2 u3 r) 71 (0, 0))) := Lib.hid (s1.self.trans ((Lib.heap_setCell_same A2.out _).trans (by simp [fldCells]; rfl)))
    have ks3 : ∀ i, w.heap.size ≤ i → i < W2.heap.size → W3.heap[i]? = W2.heap[i]? := fun i hi hl => s1.kept.block i hl (by show i ≠ fb; omega)
    have B3 := Lib.hid (B2.out.keep ks3)
    have K3 := Lib.hid (K2.out.trans s1.kept)
    have N1 := Lib.hid (N1.out.keep ks3)
    have N2 := Lib.hid (N2.out.keep ks3)
    have N3 := Lib.hid (n1.lower (B' := w.heap.size) K2.out.size)
    clear s1 n1 ks3
    go_wp2
    go_end0
    exact ⟨rfl, _, u1, u2, u3, A3.out, B3.out, N1.out, N2.out, N3.out, K3.out⟩
  | some q =>
    obtain ⟨x, ps⟩ := q
    obtain ⟨mb, rfl, hf⟩ := hm
    have c0 : w.cell? ⟨fb, 0, none⟩ = some (.pointer (some ⟨mb, 0, none⟩)) := (cell_of_row w fb 0 _ _ _ hb).trans rfl
    have z0 : w.frozen? ⟨fb, 0, none⟩ = false := frozen_of hb 0
    have HB0 := Lib.hid hb
    have HF := Lib.hid hf
    have L10 := Lib.hid h1
    have L20 := Lib.hid h2
    have L30 := Lib.hid h3
    clear hb h1 h2 h3 hf
    go_enter Tryf.func47, Tryf.ntmps47
    go_wp2_with fail
    refine (cloneFn mb x ps n w HF.out).mono ?_
    rintro e wa ⟨rb, rfl, hn, hbel⟩
    have c0' : wa.cell? ⟨fb, 0, none⟩ = some (.pointer (some ⟨mb, 0, none⟩)) := (hbel.cell (p := ⟨fb, 0, none⟩) hlt).trans c0
    have hba : wa.heap[fb]? = _ := (hbel.block fb hlt).trans HB0.out
    have z0' : wa.frozen? ⟨fb, 0, none⟩ = false := frozen_of hba 0
    have hsa := hbel.size
    have HN := Lib.hid hn
    have HBA := Lib.hid hba
    have HBE := Lib.hid hbel
    clear hn hba hbel c0 z0
    go_wp2_with fail
    have sm : Set1 wa (wa.setCell ⟨fb, 0, none⟩ (.pointer (some ⟨rb, 0, none⟩))) ⟨fb, 0, none⟩ (.pointer (some ⟨rb, 0, none⟩)) := ⟨Kept.setCell _ _ _, rfl⟩
    have HB : Hid ((wa.setCell ⟨fb, 0, none⟩ (.pointer (some ⟨rb, 0, none⟩))).heap[fb]? = some (.cells (fldCells (.pointer (some ⟨rb, 0, none⟩)) i v1 v2 v3 r) 71 (0, 0))) := Lib.hid ((Lib.heap_setCell_same HBA.out _).trans (by simp [fldCells]))
    have HM : Hid (MetNew w.heap.size (wa.setCell ⟨fb, 0, none⟩ (.pointer (some ⟨rb, 0, none⟩))) (.pointer (some ⟨rb, 0, none⟩)) n (some (x, ps))) := Lib.hid ⟨rb, rfl, HN.out.keep (fun i hi _ => Below.heap_setCell _ _ _ i (by show i ≠ fb; omega))⟩
    have HK : Hid (Kept (fun i => i = fb) w (wa.setCell ⟨fb, 0, none⟩ (.pointer (some ⟨rb, 0, none⟩)))) := Lib.hid ((Kept.ofBelow HBE.out).trans sm.kept)
    have L1 := Lib.hid ((L10.out.belowN HBE.out).set1 sm c0' (fun s h => by cases h) HBA.out (by decide))
    have L2 := Lib.hid ((L20.out.belowN HBE.out).set1 sm c0' (fun s h => by cases h) HBA.out (by decide))
    have L3 := Lib.hid ((L30.out.belowN HBE.out).set1 sm c0' (fun s h => by cases h) HBA.out (by decide))
    clear sm c0' z0'
    generalize wa.setCell ⟨fb, 0, none⟩ (.pointer (some ⟨rb, 0, none⟩)) = wb at HB HM HK L1 L2 L3 ⊢
    clear HBA HN HBE L10 L20 L30 hsa HB0 HF
    clear wa
    have ck : wb.cell? ⟨fb, 6, none⟩ = some v1 := (cell_of_row _ _ 6 _ _ _ HB.out).trans rfl
    have CK1 := Lib.hid ck
    clear ck
    refine (clone_leaf fb 6 v1 x1 wb CK1.out (frozen_of HB.out 6) L1.out HB.out (by decide)).mono ?_
    rintro e W1 ⟨rfl, u1, s1, n1⟩
    have A1 : Hid (W1.heap[fb]? = some (.cells (fldCells _ i u1 v2 v3 r) 71 (0, 0))) := Lib.hid (s1.self.trans ((Lib.heap_setCell_same HB.out _).trans (by simp [fldCells]; rfl)))
    have ks1 : ∀ i, w.heap.size ≤ i → i < wb.heap.size → W1.heap[i]? = wb.heap[i]? := fun i hi hl => s1.kept.block i hl (by show i ≠ fb; omega)
    have B1 := Lib.hid (HM.out.keep ks1)
    have K1 := Lib.hid (HK.out.trans s1.kept)
    have L2 := Lib.hid (L2.out.set1 s1 CK1.out L1.out.nostr HB.out (by decide))
    have L3 := Lib.hid (L3.out.set1 s1 CK1.out L1.out.nostr HB.out (by decide))
    have N1 := Lib.hid (n1.lower (B' := w.heap.size) HK.out.size)
    clear s1 n1 ks1
    go_wp2_with fail
    have ck : W1.cell? ⟨fb, 7, none⟩ = some v2 := (cell_of_row _ _ 7 _ _ _ A1.out).trans rfl
    have CK2 := Lib.hid ck
    clear ck
    refine (clone_leaf fb 7 v2 x2 W1 CK2.out (frozen_of A1.out 7) L2.out A1.out (by decide)).mono ?_
    rintro e W2 ⟨rfl, u2, s1, n1⟩
    have A2 : Hid (W2.heap[fb]? = some (.cells (fldCells _ i u1 u2 v3 r) 71 (0, 0))) := Lib.hid (s1.self.trans ((Lib.heap_setCell_same A1.out _).trans (by simp [fldCells]; rfl)))
    have ks2 : ∀ i, w.heap.size ≤ i → i < W1.heap.size → W2.heap[i]? = W1.heap[i]? := fun i hi hl => s1.kept.block i hl (by show i ≠ fb; omega)
    have B2 := Lib.hid (B1.out.keep ks2)
    have K2 := Lib.hid (K1.out.trans s1.kept)
    have L3 := Lib.hid (L3.out.set1 s1 CK2.out L2.out.nostr A1.out (by decide))
    have N1 := Lib.hid (N1.out.keep ks2)
    have N2 := Lib.hid (n1.lower (B' := w.heap.size) K1.out.size)
    clear s1 n1 ks2
    go_wp2_with fail
    have ck : W2.cell? ⟨fb, 8, none⟩ = some v3 := (cell_of_row _ _ 8 _ _ _ A2.out).trans rfl
    have CK3 := Lib.hid ck
    clear ck
    refine (clone_leaf fb 8 v3 x3 W2 CK3.out (frozen_of A2.out 8) L3.out A2.out (by decide)).mono ?_
    rintro e W3 ⟨rfl, u3, s1, n1⟩
    have A3 : Hid (W3.heap[fb]? = some (.cells (fldCells _ i u1 u2 u3 r) 71 (0, 0))) := Lib.hid (s1.self.trans ((Lib.heap_setCell_same A2.out _).trans (by simp [fldCells]; rfl)))
    have ks3 : ∀ i, w.heap.size ≤ i → i < W2.heap.size → W3.heap[i]? = W2.heap[i]? := fun i hi hl => s1.kept.block i hl (by show i ≠ fb; omega)
    have B3 := Lib.hid (B2.out.keep ks3)
    have K3 := Lib.hid (K2.out.trans s1.kept)
    have N1 := Lib.hid (N1.out.keep ks3)
    have N2 := Lib.hid (N2.out.keep ks3)
    have N3 := Lib.hid (n1.lower (B' := w.heap.size) K2.out.size)
    clear s1 n1 ks3
    go_wp2
    go_end0
    exact ⟨rfl, _, u1, u2, u3, A3.out, B3.out, N1.out, N2.out, N3.out, K3.out⟩

set_option maxRecDepth 100000 in
theorem zzCloneField (fb : Nat) (m i v1 v2 v3 : Value) (r : List Value) (n : NBase) (mo : Option (Leaf × Option (Nat × (Nat → ByteArray)))) (x1 x2 x3 : Leaf) (w : World) (hb : w.heap[fb]? = some (.cells (fldCells m i v1 v2 v3 r) 71 (0, 0))) (hm : MetAt w m n mo) (h1 : LeafAt w v1 x1) (h2 : LeafAt w v2 x2) (h3 : LeafAt w v3 x3) :
    Calls Tryf.prog 25 #[.pointer (some ⟨fb, 0, none⟩)] w (FldPost fb i r n mo x1 x2 x3 w) := by
  have H := Lib.hid (cloneField fb m i v1 v2 v3 r n mo x1 x2 x3 w hb hm h1 h2 h3)
  clear hb hm h1 h2 h3
  go_enter Tryf.func25, Tryf.ntmps25
  go_wp2_with fail
  refine H.out.mono ?_
  rintro e w1 ⟨rfl, h⟩
  have H1 := Lib.hid h
  clear h
  go_wp2
  go_end0
  exact ⟨rfl, H1.out⟩

end Go.Proofs.YtegabjiaekfmbaaFmt
