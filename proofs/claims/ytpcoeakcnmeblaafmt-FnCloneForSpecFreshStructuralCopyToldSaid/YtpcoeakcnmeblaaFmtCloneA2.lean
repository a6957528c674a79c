/-
  cloneNodeBase at a node with a context.
-/
import Derived.Test.YtpcoeakcnmeblaaFmtCloneA
namespace Go.Proofs.YtpcoeakcnmeblaaFmt
open Go Go.RowKit

theorem strs_keep {w X w2 : World} {B B2 : Nat} {v : Value} {zs : List ByteArray} (h : StrsAt w B v zs) (hB : B ≤ B2) (hk : ∀ (p : Addr) (z : ByteArray), p.block < B → X.cell? p = some (.string z) → w2.cell? p = some (.string z)) (hX : Below B w X) : StrsAt w2 B2 v zs := by
  cases h with
  | isNil => exact .isNil
  | isAt b off cap zs hb hn hc => exact .isAt b off cap zs (by omega) hn (fun i hi => hk _ _ hb ((hX.cell (p := ⟨b, off + i, none⟩) hb).trans (hc i hi)))
  | isBare a cap => exact .isBare a cap

set_option maxHeartbeats 1600000 in
set_option maxRecDepth 100000 in
theorem cloneNB_some (T : TypeId) (k b : Nat) (hT : NodeT T k) (C : Array Value) (tb : TypeId) (q : Nat) (t : ByteArray) (va : Option Addr) (n vc : Nat) (zs : List ByteArray) (w : World) (hb : w.heap[b]? = some (.cells C tb (0, 0)))
    (h1 : C[k + 1]? = some (.pointer (some ⟨q, 0, none⟩))) (h2 : C[k + 2]? = some (.slice va n vc)) (hq : w.cell? ⟨q, 0, none⟩ = some (.string t)) (hz : StrsAt w w.heap.size (.slice va n vc) zs) (hn : zs.length = n) (hn2 : n ≤ 1048576) :
    Calls Tryf.prog 20 #[.iface T (.pointer (some ⟨b, 0, none⟩))] w (NBPost b k C tb zs (some t) w) := by
  have hlt : b < w.heap.size := (Array.getElem?_eq_some_iff.1 hb).1
  have hlq : q < w.heap.size := World.block_lt_of_cell? w ⟨q, 0, none⟩ hq
  have c1 : w.cell? ⟨b, k + 1, none⟩ = some (.pointer (some ⟨q, 0, none⟩)) := (cell_of_row w b (k + 1) _ _ _ hb).trans h1
  have b1 : Below w.heap.size w (w.alloc (.cells #[.string ⟨#[]⟩] 9 (0, 0))) := (Below.refl _ w).alloc (Nat.le_refl _) _
  have c1' : (w.alloc (.cells #[.string ⟨#[]⟩] 9 (0, 0))).cell? ⟨b, k + 1, none⟩ = some (.pointer (some ⟨q, 0, none⟩)) := (b1.cell (p := ⟨b, k + 1, none⟩) hlt).trans c1
  have cq' : (w.alloc (.cells #[.string ⟨#[]⟩] 9 (0, 0))).cell? ⟨q, 0, none⟩ = some (.string t) := (b1.cell (p := ⟨q, 0, none⟩) hlq).trans hq
  have m1 := fun w => hT.ctx b w
  have m2 := fun w => hT.free b w
  have m3 := fun w => hT.sctx b w
  have m4 := fun w => hT.sfree b w
  have m5 := fun w => hT.nsctx b w
  have m6 := fun w => hT.nsfree b w
  have HB := Lib.hid hb
  have HZ := Lib.hid hz
  have HN := Lib.hid hn
  have H1 := Lib.hid h1
  have H2 := Lib.hid h2
  clear hb hz hn h1 h2 hT
  go_enter Tryf.func20, Tryf.ntmps20
  go_wp2_with (first | (go_at_call 36; refine (nbContext b k _ _ c1).mono ?_; rintro e w' ⟨rfl, rfl⟩) | (go_at_call 36; refine (nbContext b k _ _ c1').mono ?_; rintro e w' ⟨rfl, rfl⟩))
  have b2 : Below w.heap.size w (w.alloc (.cells #[.string t] 9 (0, 0))) := (Below.refl _ w).alloc (Nat.le_refl _) _
  have HBX : (w.alloc (.cells #[.string t] 9 (0, 0))).heap[b]? = some (.cells C tb (0, 0)) := (b2.block b hlt).trans HB.out
  have cX : (w.alloc (.cells #[.string t] 9 (0, 0))).cell? ⟨b, k + 1, none⟩ = some (.pointer (some ⟨q, 0, none⟩)) := (cell_of_row _ b (k + 1) _ _ _ HBX).trans H1.out
  have HBX' := Lib.hid HBX
  clear HBX
  refine (nbSetContext b k (some ⟨w.heap.size, 0, none⟩) _ _ cX (frozen_of HBX'.out (k + 1))).mono ?_
  rintro e w2 ⟨rfl, hw2⟩
  have hC2 : (C.setIfInBounds (k + 1) (.pointer (some ⟨w.heap.size, 0, none⟩)))[k + 2]? = some (.slice va n vc) := by rw [Array.getElem?_setIfInBounds_ne (by omega)]; exact H2.out
  have hB2 : w2.heap[b]? = some (.cells (C.setIfInBounds (k + 1) (.pointer (some ⟨w.heap.size, 0, none⟩))) tb (0, 0)) := by rw [← hw2]; exact (Lib.heap_setCell_same HBX'.out _).trans (by simp)
  have hs2 : w2.heap.size = w.heap.size + 1 := by rw [← hw2]; simp [World.setCell]
  have hz2 : StrsAt w2 w2.heap.size (.slice va n vc) zs := strs_keep HZ.out (by omega) (fun p z hp hs => by
    rw [← hw2, World.cell?_setCell_other _ _ _ _ (fun e => by rw [← e, cX] at hs; cases hs)]
    exact hs) b2
  have HW2 := Lib.hid hw2
  clear hw2 cX c1 c1' cq' hq H1 H2 HB HZ b1 b2 HBX'
  generalize hC0 : C.setIfInBounds (k + 1) (.pointer (some ⟨w.heap.size, 0, none⟩)) = C2 at hC2 hB2
  have HC0 := Lib.hid hC0
  have hlt2 : b < w2.heap.size := by omega
  have c2 : w2.cell? ⟨b, k + 2, none⟩ = some (.slice va n vc) := (cell_of_row w2 b (k + 2) _ _ _ hB2).trans hC2
  have HB := Lib.hid hB2
  have HZ := Lib.hid hz2
  have H2 := Lib.hid hC2
  have hmk : ∀ w, (Instr.makeSlice 50 (.int .i64 0) (.int .i64 0)).run Tryf.prog w = .ok (.slice (some ⟨w.heap.size, 0, none⟩) 0 0) (w.alloc (.cells #[] 37 (0, 0))) := fun w => by kernel_rfl
  clear hC0 hB2 hC2 hz2 hs2
  go_wp2_with fail
  have W1b : (((w2.alloc (.cells #[] 37 (0, 0))).drew : World).heap[b]? = some (.cells C2 tb (0, 0))) := (Below.heap_alloc w2 _ b hlt2).trans HB.out
  have HW1b := Lib.hid W1b
  have c2' : ((w2.alloc (.cells #[] 37 (0, 0))).drew).cell? ⟨b, k + 2, none⟩ = some (.slice va n vc) := (cell_of_row _ b (k + 2) _ _ _ HW1b.out).trans H2.out
  have HO1 : Hid (((w2.alloc (.cells #[] 37 (0, 0))).drew).ownsRow w2.heap.size 37 1 (.slice (some ⟨w2.heap.size, 0, none⟩) 0 0) 0 []) :=
    Lib.hid ⟨rfl, .inr ⟨w2.heap.size, 0, #[], rfl, Nat.le_refl _, heap_alloc_new w2 _, Nat.le_refl _, by unfold maxLen; omega, by simp, rfl⟩⟩
  have HZ1 : Hid (StrsAt ((w2.alloc (.cells #[] 37 (0, 0))).drew) w2.heap.size (.slice va n vc) zs) := Lib.hid (HZ.out.below (drew_below ((Below.refl _ w2).alloc (Nat.le_refl _) _)))
  have HL1 : Hid (b < ((w2.alloc (.cells #[] 37 (0, 0))).drew).heap.size) := Lib.hid (Nat.lt_of_lt_of_le hlt2 (by simp))
  have HL3 : Hid (w2.heap.size ≤ ((w2.alloc (.cells #[] 37 (0, 0))).drew).heap.size) := Lib.hid (by simp)
  have HL2 : Hid (some b ≠ some w2.heap.size) := Lib.hid (fun e => by simp at e; omega)
  clear W1b
  go_region_law (first
    | (refine step_append_strs (by rfl) _ _ (by rfl) w2.heap.size w2.heap.size (by rfl) (by exact HO1.out) w2.heap.size va n vc zs (by rfl) (by exact HZ1.out) HN.out hn2 HL3.out ?_; intro g cap w3 hg3 hown3 hgr3;
        have HO3 := Lib.hid hown3; have HB3 : Hid (w3.heap[b]? = some (.cells C2 tb (0, 0))) := Lib.hid ((hgr3.block b HL1.out HL2.out).trans HW1b.out);
        have c3 : w3.cell? ⟨b, k + 2, none⟩ = some (.slice va n vc) := (cell_of_row w3 b (k + 2) _ _ _ HB3.out).trans H2.out; have z3 : w3.frozen? ⟨b, k + 2, none⟩ = false := frozen_of HB3.out (k + 2))
    | (go_simp; go_at_call 37; first
        | (refine (nbFree b k (.slice va n vc) w2.drew c2).mono ?_; rintro e w' ⟨rfl, rfl⟩)
        | (refine (nbFree b k (.slice va n vc) ((w2.alloc (.cells #[] 37 (0, 0))).drew) c2').mono ?_; rintro e w' ⟨rfl, rfl⟩))
    | (go_simp; go_at_call 41; refine (nbSetFree b k _ _ _ _ _ c3 z3).mono ?_; rintro e w' ⟨rfl, rfl⟩))
  all_goals go_end0
  all_goals exact nb_some hlt HW2.out (by rw [HC0.out]; exact nb_end HB3.out HN.out hlt2 hg3 HO3.out hgr3)

end Go.Proofs.YtpcoeakcnmeblaaFmt
