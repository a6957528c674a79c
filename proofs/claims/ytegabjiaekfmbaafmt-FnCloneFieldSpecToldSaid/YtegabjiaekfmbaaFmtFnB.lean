/-
  clone at a Function with a list of parameters.
-/
import Derived.Test.YtegabjiaekfmbaaFmtFnA
namespace Go.Proofs.YtegabjiaekfmbaaFmt
open Go Go.RowKit

theorem store_body (v : Value) (hv : v = .nilIface ∨ ∃ T a, v = .iface T (.pointer (some a))) (w : World) (pb po : Nat) (u : Value) :
    (store ⟨w.heap.size, 2, none⟩ v).run Tryf.prog ((w.setCell ⟨pb, po, none⟩ u).alloc (.cells #[.slice none 0 0, .slice none 0 0, .nilIface, .slice none 0 0, .slice none 0 0, .pointer none, .slice none 0 0, .pointer none, .string ⟨#[]⟩, .int .i64 0, .int .i64 0, .int .i64 0, .int .i64 0, .bool false] 80 (0, 0)))
    = .ok () ((w.setCell ⟨pb, po, none⟩ u).alloc (.cells #[.slice none 0 0, .slice none 0 0, v, .slice none 0 0, .slice none 0 0, .pointer none, .slice none 0 0, .pointer none, .string ⟨#[]⟩, .int .i64 0, .int .i64 0, .int .i64 0, .int .i64 0, .bool false] 80 (0, 0))) := by
  rcases hv with rfl | ⟨T, a, rfl⟩ <;> go_simp

theorem step_append_par {ops : Array Oper} {o : Oper} {a : Act} {w : World} {K : Act → World → Prop} {Q : Exit → Act → World → Prop} {E : Prop} (hgd : o.guard = none) (s x : Operand)
    (ho : o.op = .call { callee := .builtin .append, args := #[s, x], argTypes := #[78, 78] }) (g0 : Nat) (hs : a.eval s = .slice (some ⟨g0, 0, none⟩) 0 0) (hown : w.ownsRow g0 82 11 (.slice (some ⟨g0, 0, none⟩) 0 0) 0 []) (L n c : Nat) (ns : Nat → ByteArray) (hx : a.eval x = .slice (some ⟨L, 0, none⟩) n c) (hl : ParRow w L n ns) (hn : n ≤ 1048576) (hb : g0 ≤ w.heap.size)
    (h : ∀ g cap w', ParRow w' g n ns → g0 ≤ g → w.grownBy w' (some g0) → K (a.put o.dst (.slice (some ⟨g, 0, none⟩) n cap)) w') :
    if Region.wanted o (yielded ops a.tmps) = true then Oper.wp Tryf.prog o a w K Q else E := by
  have hw : Region.wanted o (yielded ops a.tmps) = true := by simp [Region.wanted, hgd]
  rw [if_pos hw]
  obtain ⟨g, cap, w', hrun, hrow, hg, hgr⟩ := append_par w o.type g0 hown L n c ns hl hn hb
  unfold Oper.wp
  simp [execOp, ho, resolve, invoke, builtin, hs, hx, hrun, Result.andThen]
  exact h g cap w' hrow hg hgr

theorem fn_mid {w X w3 : World} {pb po : Nat} {v : Value} {x : Leaf} {L pn pc : Nat} {ns : Nat → ByteArray} {n : NBase} {zs : List ByteArray} {c : Option ByteArray} {g cap : Nat} (hltp : pb < w.heap.size) (hXs : X.heap.size = w.heap.size + 1)
    (hs : Set1 w X ⟨pb, po, none⟩ (.iface 69 (.pointer (some ⟨w.heap.size, 0, none⟩)))) (hl : LeafAt X v x) (hn : NBok X n zs c)
    (hb3 : w3.heap[w.heap.size]? = some (.cells (fnCells v (some ⟨L, 0, none⟩) pn pc n) 80 (0, 0))) (hr3 : ParRow w3 g pn ns) (hg : X.heap.size ≤ g)
    (hgr : ((X.alloc (.cells #[] 82 (0, 0))).drew).grownBy w3 (some X.heap.size)) :
    FnMid w.heap.size v x (some ⟨g, 0, none⟩) pn cap (some (pn, ns)) n zs c (w3.setCell ⟨w.heap.size, 3, none⟩ (.slice (some ⟨g, 0, none⟩) pn cap)) ∧ Kept (fun i => i = pb) w (w3.setCell ⟨w.heap.size, 3, none⟩ (.slice (some ⟨g, 0, none⟩) pn cap)) ∧ w.heap.size < (w3.setCell ⟨w.heap.size, 3, none⟩ (.slice (some ⟨g, 0, none⟩) pn cap)).heap.size ∧
      (w3.setCell ⟨w.heap.size, 3, none⟩ (.slice (some ⟨g, 0, none⟩) pn cap)).heap[pb]? = (w.setCell ⟨pb, po, none⟩ (.iface 69 (.pointer (some ⟨w.heap.size, 0, none⟩)))).heap[pb]? := by
  have b3 : Below X.heap.size X w3 := (drew_below ((Below.refl _ X).alloc (Nat.le_refl _) _)).grown hgr (by simp) (by simp)
  have c3 : w3.cell? ⟨w.heap.size, 3, none⟩ = some (.slice (some ⟨L, 0, none⟩) pn pc) := (cell_of_row w3 _ 3 _ _ _ hb3).trans rfl
  have s3 : Set1 w3 (w3.setCell ⟨w.heap.size, 3, none⟩ (.slice (some ⟨g, 0, none⟩) pn cap)) ⟨w.heap.size, 3, none⟩ (.slice (some ⟨g, 0, none⟩) pn cap) := ⟨Kept.setCell _ _ _, rfl⟩
  have z3 := b3.size
  refine ⟨⟨(Lib.heap_setCell_same hb3 _).trans (by simp [fnCells]), (hl.belowN b3).set1 s3 c3 (fun s h => by cases h) hb3 (by decide), (hn.belowN b3).set1 s3 c3 (fun s h => by cases h), ⟨g, rfl, rfl, by omega, hr3.keep (Below.heap_setCell w3 _ _ g (by show g ≠ w.heap.size; omega))⟩⟩, ?_, ?_, ?_⟩
  · have k := hs.kept
    exact ⟨b3.os.trans k.os, b3.tape.trans k.tape, b3.output.trans k.output, by simp [World.setCell]; omega, fun i hi hS => (Below.heap_setCell w3 _ _ i (by show i ≠ w.heap.size; omega)).trans ((b3.block i (by omega)).trans (k.block i hi hS))⟩
  · simp [World.setCell]; omega
  · exact (Below.heap_setCell w3 _ _ pb (by show pb ≠ w.heap.size; omega)).trans ((b3.block pb (by omega)).trans hs.self)

set_option maxHeartbeats 3200000 in
set_option maxRecDepth 1000000 in
theorem clone_fn_some (pb po b : Nat) (v : Value) (x : Leaf) (L pn pc : Nat) (ns : Nat → ByteArray) (n : NBase) (zs : List ByteArray) (c : Option ByteArray) (w : World)
    (hp : w.cell? ⟨pb, po, none⟩ = some (.iface 69 (.pointer (some ⟨b, 0, none⟩)))) (hf : w.frozen? ⟨pb, po, none⟩ = false)
    (hb : w.heap[b]? = some (.cells (fnCells v (some ⟨L, 0, none⟩) pn pc n) 80 (0, 0))) (hne : pb ≠ b) (hn : NBok w n zs c)
    (hx : LeafAt w v x) (hL : ParRow w L pn ns) (hLp : L ≠ pb) (hpl : pn ≤ 1048576) {CP : Array Value} {TP : TypeId} (hbp : w.heap[pb]? = some (.cells CP TP (0, 0))) (hT : TP ≠ 60 ∧ TP ≠ 75) :
    Calls Tryf.prog 49 #[.pointer (some ⟨pb, po, none⟩)] w (ClonedFn ⟨pb, po, none⟩ x (some (pn, ns)) n zs c w) := by
  have HN := Lib.hid hn
  have HP := Lib.hid hp
  have HX := Lib.hid hx
  have HL := Lib.hid hL
  have HBP := Lib.hid hbp
  have hlt : b < w.heap.size := (Array.getElem?_eq_some_iff.1 hb).1
  have hltp : pb < w.heap.size := World.block_lt_of_cell? w ⟨pb, po, none⟩ hp
  have v0 : w.cell? ⟨b, 0, none⟩ = some (.slice none 0 0) := (cell_of_row w b 0 _ _ _ hb).trans rfl
  have v1 : w.cell? ⟨b, 1, none⟩ = some (.slice none 0 0) := (cell_of_row w b 1 _ _ _ hb).trans rfl
  have v2 : w.cell? ⟨b, 2, none⟩ = some v := (cell_of_row w b 2 _ _ _ hb).trans rfl
  have v3 : w.cell? ⟨b, 3, none⟩ = some (.slice (some ⟨L, 0, none⟩) pn pc) := (cell_of_row w b 3 _ _ _ hb).trans rfl
  have v4 : w.cell? ⟨b, 4, none⟩ = some (.slice n.fa n.fn n.fc) := (cell_of_row w b 4 _ _ _ hb).trans rfl
  have v5 : w.cell? ⟨b, 5, none⟩ = some (.pointer n.ca) := (cell_of_row w b 5 _ _ _ hb).trans rfl
  have v6 : w.cell? ⟨b, 6, none⟩ = some (.slice n.va n.vn n.vc) := (cell_of_row w b 6 _ _ _ hb).trans rfl
  have v7 : w.cell? ⟨b, 7, none⟩ = some (.pointer n.fp) := (cell_of_row w b 7 _ _ _ hb).trans rfl
  have v8 : w.cell? ⟨b, 8, none⟩ = some (.string n.nm) := (cell_of_row w b 8 _ _ _ hb).trans rfl
  have v9 : w.cell? ⟨b, 9, none⟩ = some (.int .i64 n.bl) := (cell_of_row w b 9 _ _ _ hb).trans rfl
  have v10 : w.cell? ⟨b, 10, none⟩ = some (.int .i64 n.bc) := (cell_of_row w b 10 _ _ _ hb).trans rfl
  have v11 : w.cell? ⟨b, 11, none⟩ = some (.int .i64 n.el) := (cell_of_row w b 11 _ _ _ hb).trans rfl
  have v12 : w.cell? ⟨b, 12, none⟩ = some (.int .i64 n.ec) := (cell_of_row w b 12 _ _ _ hb).trans rfl
  have v13 : w.cell? ⟨b, 13, none⟩ = some (.bool false) := (cell_of_row w b 13 _ _ _ hb).trans rfl
  have hmk : ∀ w, (Instr.makeSlice 78 (.int .i64 0) (.int .i64 0)).run Tryf.prog w = .ok (.slice (some ⟨w.heap.size, 0, none⟩) 0 0) (w.alloc (.cells #[] 82 (0, 0))) := fun w => by kernel_rfl
  have q1 : ∀ (w : World) (a : Option Addr) (n c n' c' : Nat), (binOp .neq 78 (.slice a n c) (.slice none n' c')).run Tryf.prog w = .ok (.bool (!a.isNone)) w := fun w a n c n' c' => run_neq_slice_nil_any w _ _ a n c n' c' Tryf.underlying78
  have hst := store_body v hx.shape w pb po (.iface 69 (.pointer (some ⟨w.heap.size, 0, none⟩)))
  clear hb hn hx hL hbp
  go_enter Tryf.func49, Tryf.ntmps49
  go_wp2_with fail
  have hXs : ((w.setCell ⟨pb, po, none⟩ (.iface 69 (.pointer (some ⟨w.heap.size, 0, none⟩)))).alloc (.cells (fnCells v (some ⟨L, 0, none⟩) pn pc n) 80 (0, 0))).heap.size = w.heap.size + 1 := by simp [World.setCell]
  have hX : ((w.setCell ⟨pb, po, none⟩ (.iface 69 (.pointer (some ⟨w.heap.size, 0, none⟩)))).alloc (.cells (fnCells v (some ⟨L, 0, none⟩) pn pc n) 80 (0, 0))).heap[w.heap.size]? = some (.cells (fnCells v (some ⟨L, 0, none⟩) pn pc n) 80 (0, 0)) := by
    have := heap_alloc_new (w.setCell ⟨pb, po, none⟩ (.iface 69 (.pointer (some ⟨w.heap.size, 0, none⟩)))) (.cells (fnCells v (some ⟨L, 0, none⟩) pn pc n) 80 (0, 0))
    rwa [show (w.setCell ⟨pb, po, none⟩ (.iface 69 (.pointer (some ⟨w.heap.size, 0, none⟩)))).heap.size = w.heap.size by simp [World.setCell]] at this
  have hXk : Kept (fun i => i = pb) w ((w.setCell ⟨pb, po, none⟩ (.iface 69 (.pointer (some ⟨w.heap.size, 0, none⟩)))).alloc (.cells (fnCells v (some ⟨L, 0, none⟩) pn pc n) 80 (0, 0))) := (Kept.setCell w ⟨pb, po, none⟩ _).trans (Kept.ofBelow ((Below.refl _ _).alloc (Nat.le_refl _) _))
  have hXp : ((w.setCell ⟨pb, po, none⟩ (.iface 69 (.pointer (some ⟨w.heap.size, 0, none⟩)))).alloc (.cells (fnCells v (some ⟨L, 0, none⟩) pn pc n) 80 (0, 0))).heap[pb]? = (w.setCell ⟨pb, po, none⟩ (.iface 69 (.pointer (some ⟨w.heap.size, 0, none⟩)))).heap[pb]? := Below.heap_alloc _ _ pb (by simp [World.setCell]; omega)
  change Code.wp Tryf.prog _ _ _ ((w.setCell ⟨pb, po, none⟩ (.iface 69 (.pointer (some ⟨w.heap.size, 0, none⟩)))).alloc (.cells (fnCells v (some ⟨L, 0, none⟩) pn pc n) 80 (0, 0)))
  generalize ((w.setCell ⟨pb, po, none⟩ (.iface 69 (.pointer (some ⟨w.heap.size, 0, none⟩)))).alloc (.cells (fnCells v (some ⟨L, 0, none⟩) pn pc n) 80 (0, 0))) = X at hX hXs hXk hXp ⊢
  have s1 : Set1 w X ⟨pb, po, none⟩ (.iface 69 (.pointer (some ⟨w.heap.size, 0, none⟩))) := ⟨hXk, hXp⟩
  have lX : LeafAt X v x := HX.out.set1 s1 HP.out (fun s h => by cases h) HBP.out hT
  have nX : NBok X n zs c := HN.out.set1 s1 HP.out (fun s h => by cases h)
  have rX : ParRow X L pn ns := HL.out.keep (hXk.block L HL.out.lt hLp)
  have kX : (X.alloc (.cells #[] 82 (0, 0))).drew.heap[w.heap.size]? = some (.cells (fnCells v (some ⟨L, 0, none⟩) pn pc n) 80 (0, 0)) := (Below.heap_alloc X _ _ (by omega)).trans hX
  have x3 : X.drew.cell? ⟨w.heap.size, 3, none⟩ = some (.slice (some ⟨L, 0, none⟩) pn pc) := (cell_of_row _ _ 3 _ _ _ (show X.drew.heap[w.heap.size]? = _ from hX)).trans rfl
  have y3 : (X.alloc (.cells #[] 82 (0, 0))).drew.cell? ⟨w.heap.size, 3, none⟩ = some (.slice (some ⟨L, 0, none⟩) pn pc) := (cell_of_row _ _ 3 _ _ _ kX).trans rfl
  have HO1 : Hid (((X.alloc (.cells #[] 82 (0, 0))).drew).ownsRow X.heap.size 82 11 (.slice (some ⟨X.heap.size, 0, none⟩) 0 0) 0 []) :=
    Lib.hid ⟨rfl, .inr ⟨X.heap.size, 0, #[], rfl, Nat.le_refl _, heap_alloc_new X _, Nat.le_refl _, by unfold maxLen; omega, by simp, rfl⟩⟩
  have HR1 : Hid (ParRow ((X.alloc (.cells #[] 82 (0, 0))).drew) L pn ns) := Lib.hid (rX.keep (Below.heap_alloc X _ _ rX.lt))
  have HZ1 : Hid (X.heap.size ≤ ((X.alloc (.cells #[] 82 (0, 0))).drew).heap.size ∧ w.heap.size < ((X.alloc (.cells #[] 82 (0, 0))).drew).heap.size ∧ some w.heap.size ≠ some X.heap.size) := Lib.hid ⟨by simp, by simp; omega, fun e => by simp at e; omega⟩
  have HK1 := Lib.hid kX
  have HXX := Lib.hid hX
  have HXS := Lib.hid hXs
  have HS1 := Lib.hid s1
  have HLX := Lib.hid lX
  have HNX := Lib.hid nX
  have HRX := Lib.hid rX
  clear hX hXs hXk hXp s1 lX nX rX kX v0 v1 v2 v3 v4 v5 v6 v7 v8 v9 v10 v11 v12 v13 hp hf hst
  go_region_law (first
    | (refine step_append_par (by rfl) _ _ (by rfl) X.heap.size (by rfl) (by exact HO1.out) L pn pc ns (by rfl) (by exact HR1.out) hpl HZ1.out.1 ?_; intro g cap w3 hrow3 hg3 hgr3;
        have HR3 := Lib.hid hrow3; have HB3 : Hid (w3.heap[w.heap.size]? = some (.cells (fnCells v (some ⟨L, 0, none⟩) pn pc n) 80 (0, 0))) := Lib.hid ((hgr3.block _ HZ1.out.2.1 HZ1.out.2.2).trans HK1.out);
        have c3 : w3.cell? ⟨w.heap.size, 3, none⟩ = some (.slice (some ⟨L, 0, none⟩) pn pc) := (cell_of_row w3 _ 3 _ _ _ HB3.out).trans rfl; have z3 : w3.frozen? ⟨w.heap.size, 3, none⟩ = false := frozen_of HB3.out 3))
  all_goals
    obtain ⟨hm, hk, hz, hq⟩ := fn_mid (cap := cap) hltp HXS.out HS1.out HLX.out HNX.out HB3.out HR3.out hg3 hgr3
    generalize w3.setCell ⟨w.heap.size, 3, none⟩ (.slice (some ⟨g, 0, none⟩) pn cap) = W at hm hk hz hq ⊢
    have HM := Lib.hid hm
    have HK := Lib.hid hk
    have HQ := Lib.hid hq
    have t3 : W.cell? ⟨w.heap.size, 3, none⟩ = some (.slice (some ⟨g, 0, none⟩) pn cap) := (cell_of_row _ _ 3 _ _ _ hm.row).trans rfl
    clear hm hk hq hrow3 HR3 HB3 c3 z3 hg3 hgr3 hmk q1 HO1 HR1 HZ1 HK1 HXX HXS HS1 HLX HNX HRX x3 y3
    clear w3
    go_wp2
    go_loopw [331] (fun i wr => ∃ q : Nat, q ≤ pn ∧ i = .int .i64 q ∧ W = wr) (fun i _ => pn - (intOf i).toNat)
    case atStart => exact ⟨0, Nat.zero_le _, rfl, rfl⟩
    case round =>
      obtain ⟨q, hq, rfl, rfl⟩ := hrel
      by_cases hlt2 : q < pn
      · have hm := HM.out
        obtain ⟨g', e1, _, _, hrow⟩ := hm.pars
        have hg' : g' = g := by injection e1 with e1; injection e1 with e1; exact e1.symm
        rw [hg'] at hrow
        have c4 : W.cell? ⟨g, q * 11 + 4, none⟩ = some .nilIface := (hrow.cell hlt2 (by omega)).trans rfl
        have C4 := Lib.hid c4
        clear hm e1 hrow hg' c4
        go_wp2_with fail
        refine (clone_nil ⟨g, q * 11 + 4, none⟩ W C4.out).mono ?_
        rintro e w2 ⟨rfl, rfl⟩
        go_wp2
        go_roundw
        case rel => exact ⟨q + 1, by omega, by go_num, by trivial⟩
        case measure => simp [intOf]; omega
      · obtain rfl : q = pn := by omega
        have hm := HM.out
        have c2 : W.cell? ⟨w.heap.size, 2, none⟩ = some v := (cell_of_row _ _ 2 _ _ _ hm.row).trans rfl
        have C2 := Lib.hid c2
        clear hm c2
        go_wp2_with fail
        have hm := HM.out
        refine (clone_leaf w.heap.size 2 _ _ W C2.out (frozen_of hm.row 2) hm.leaf hm.row (by decide)).mono ?_
        rintro e W1 ⟨rfl, v1, s1, l1⟩
        have hW1 : W1.heap[w.heap.size]? = some (.cells (fnCells v1 (some ⟨g, 0, none⟩) q cap n) 80 (0, 0)) := s1.self.trans ((Lib.heap_setCell_same hm.row _).trans (by simp [fnCells]))
        have n1 := hm.base.set1 s1 C2.out hm.leaf.nostr
        have hp1 : W1.cell? ⟨pb, po, none⟩ = some (.iface 69 (.pointer (some ⟨w.heap.size, 0, none⟩))) := by
          rw [World.cell?_of_block (a := ⟨pb, po, none⟩) ((s1.kept.block pb (by omega) (by show pb ≠ w.heap.size; omega)).trans HQ.out)]
          exact World.cell?_setCell_same _ _ _ HP.out
        have HW1 := Lib.hid hW1
        have S1 := Lib.hid s1
        have L1 := Lib.hid l1
        have N1 := Lib.hid n1
        clear hm hW1 s1 l1 n1
        go_wp2_with fail
        refine (cloneNB 69 4 w.heap.size nodeFn _ _ n zs c _ HW1.out rfl rfl N1.out).mono ?_
        rintro e W3 h
        obtain ⟨rfl, h'⟩ := h
        have H := Lib.hid h'
        clear h'
        go_wp2
        go_end0
        exact fn_end hltp HK.out hz HQ.out HM.out S1.out L1.out ⟨rfl, H.out⟩

end Go.Proofs.YtegabjiaekfmbaaFmt
