/-
  The walk of FnCloneBinaryUnsharesChildren.
-/
import Derived.Test.YtgmmbimbbkbjfaaFmtCloneE
import Derived.Deep.QuietTactic
import Derived.BigQuiet
import Derived.IntWalk
namespace Go.Proofs.YtgmmbimbbkbjfaaFmt.fnCloneBinaryUnsharesChildren
open Go Go.RowKit

theorem bytes_ok (b1 b2 : Bool) (l r : ByteArray) (op : Int) (w : World) (h1 : l.size + r.size ≤ 1048576) :
    Calls Tryf.prog 35 #[.int .i64 op, .string l, .string r, .bool b1, .bool b2] w fun e w' => e = .returned (.bool true) ∧ w = w' := by
  have q1 : decide (1048576 < l.size) = false := decide_eq_false (by omega)
  have q2 : decide (1048576 < r.size) = false := decide_eq_false (by omega)
  have q3 : decide (1048576 < l.size + r.size) = false := decide_eq_false (by omega)
  go_enter Tryf.func35, Tryf.ntmps35
  go_wp2
  all_goals go_ret
  all_goals exact ⟨rfl, rfl⟩
theorem bytes_no (b1 b2 : Bool) (l r : ByteArray) (op : Int) (w : World) (hd1 : l.size ≤ maxLen) (hs : r.size ≤ maxLen) (h1 : 1048576 < l.size + r.size) :
    Calls Tryf.prog 35 #[.int .i64 op, .string l, .string r, .bool b1, .bool b2] w fun e w' => e = .returned (.bool false) ∧ w = w' := by
  unfold maxLen at hs hd1
  by_cases q1 : 1048576 < l.size
  · go_enter Tryf.func35, Tryf.ntmps35
    go_wp2
    all_goals go_ret
    all_goals exact ⟨rfl, rfl⟩
  by_cases q2 : 1048576 < r.size
  · go_enter Tryf.func35, Tryf.ntmps35
    go_wp2
    all_goals go_ret
    all_goals exact ⟨rfl, rfl⟩
  · go_enter Tryf.func35, Tryf.ntmps35
    go_wp2
    all_goals go_ret
    all_goals exact ⟨rfl, rfl⟩

def nb1 (g : Nat) : NBase := ⟨none, 0, 0, none, some ⟨g, 0, none⟩, 1, 1, none, ⟨#[]⟩, 0, 0, 0, 0⟩
theorem nb1_ok {W : World} {g : Nat} {l : ByteArray} (h : W.heap[g]? = some (.cells #[.string l] 41 (0, 0))) : NBok W (nb1 g) [l] none := by
  refine ⟨.isAt g 0 1 [l] (Array.getElem?_eq_some_iff.1 h).1 (by simp [maxLen]) (fun i hi => ?_), rfl, by simp [nb1], rfl⟩
  obtain rfl : i = 0 := by
    have : [l].length = 1 := rfl
    omega
  exact (cell_of_row _ _ 0 _ _ _ h).trans rfl
theorem drew0 {P : Program} {m : Sem Value} {v : Value} {W : World} (h : m.run P (W.drewN 0) = .ok v (W.drewN 0)) : m.run P W = .ok v W := h
theorem neq_same {P : Program} {tp te : TypeId} {n : Nat} (hp : P.underlying tp = some (.pointer te)) (hs : (P.info? te).map (fun i => i.size) = some n) (a : Addr) (w : World) : (binOp .neq tp (.pointer (some a)) (.pointer (some a))).run P w = .ok (.bool false) w := by
  obtain ⟨j, hte, _⟩ := info_size hs
  have h : ∀ d : Nat, (Op.equalIn (d + 1) tp (.pointer (some a)) (.pointer (some a))).run P w = .ok true w := fun d => by
    simp [Op.equalIn, run_underlying hp, sizeOf, typeInfo, hte, run_sameAddr_same]
  simp only [binOp]
  simp [Op.equal, Op.maxDepth, h 9999]
theorem row_free {w : World} {B : Nat} {e : TypeId} {g n cap : Nat} {xs : List Value} {c : Array Value} {fz : Nat × Nat} (h : w.ownsRow B e 1 (.slice (some ⟨g, 0, none⟩) n cap) n xs) (hc : w.heap[g]? = some (.cells c e fz)) : fz = (0, 0) := by
  rcases h.2 with ⟨hv, _⟩ | ⟨g', cap', cur, hv, _, hg, _⟩
  · cases hv
  · cases hv
    rw [hg] at hc
    cases hc
    rfl

set_option maxHeartbeats 3200000 in
set_option maxRecDepth 100000 in
theorem walk_tt (l r : ByteArray) (op : Int) (w : World) (h1 : l.size + r.size ≤ 1048576) :
    Calls Tryf.prog 7 #[.int .i64 op, .string l, .string r, .bool true, .bool true] w fun e w' => e = .returned (.bool true) ∧ Below w.heap.size w w' := by
  have q1 : decide (1048576 < l.size) = false := decide_eq_false (by omega)
  have q2 : decide (1048576 < r.size) = false := decide_eq_false (by omega)
  have q3 : decide (1048576 < l.size + r.size) = false := decide_eq_false (by omega)
  have qs : ∀ (w : World) (a : Option Addr) (n c n' c' : Nat), (binOp .eql 35 (.slice a n c) (.slice none n' c')).run Tryf.prog w = .ok (.bool a.isNone) w := fun w a n c n' c' => Lib.run_eql_slice_nil w _ _ a n c n' c' Tryf.underlying35
  have qn : ∀ (w : World) (a : Option Addr) (n c n' c' : Nat), (binOp .neq 35 (.slice a n c) (.slice none n' c')).run Tryf.prog w = .ok (.bool (!a.isNone)) w := fun w a n c n' c' => run_neq_slice_nil_any w _ _ a n c n' c' Tryf.underlying35
  go_enter Tryf.func7, Tryf.ntmps7
  go_wp2_with fail
  refine (bytes_ok true true l r op w h1).mono ?_
  rintro e w' ⟨rfl, rfl⟩
  go_wp2_with fail
  refine (newBin op _ _ _).mono ?_
  rintro e W0 ⟨rfl, hW0⟩
  have hl0 : W0.heap[w.heap.size]? = some (.cells (varCells l nb0) 43 (0, 0)) := by rw [← hW0]; exact (get_old (by first | (simp; done) | (simp; omega))).trans (get_new (by first | (simp; done) | (simp; omega)))
  have hb0 : W0.heap[(w.heap.size + 1)]? = some (.cells (binCells (.iface 40 (.pointer (some ⟨w.heap.size, 0, none⟩))) (.iface 40 (.pointer (some ⟨w.heap.size, 0, none⟩))) none 0 0 nb0 op) 85 (0, 0)) := by rw [← hW0]; exact get_new (by first | (simp; done) | (simp; omega))
  have hbl0 : Below w.heap.size w W0 := by rw [← hW0]; exact ((Below.refl _ w).alloc (Nat.le_refl _) _).alloc (by simp) _
  have hs0 : W0.heap.size = w.heap.size + 2 := by rw [← hW0]; simp
  clear hW0
  have k5 : W0.cell? ⟨(w.heap.size + 1), 5, none⟩ = some (.slice none 0 0) := (cell_of_row _ _ 5 _ _ _ hb0).trans rfl
  have z5 : W0.frozen? ⟨(w.heap.size + 1), 5, none⟩ = false := frozen_of hb0 5
  have l5 : (w.heap.size + 1) < W0.heap.size := (Array.getElem?_eq_some_iff.1 hb0).1
  have HB0 := Lib.hid hb0
  have HL0 := Lib.hid hl0
  have HBL0 := Lib.hid hbl0
  have HS0 := Lib.hid hs0
  clear hb0 hl0 hbl0 hs0
  go_wp2_with fail
  generalize hW1 : ((W0.setCell ⟨(w.heap.size + 1), 5, none⟩ (.slice (some ⟨W0.heap.size, 0, none⟩) 1 1)).alloc (.cells #[.string l] 41 (0, 0))) = W1
  have hsc : (W0.setCell ⟨(w.heap.size + 1), 5, none⟩ (.slice (some ⟨W0.heap.size, 0, none⟩) 1 1)).heap.size = W0.heap.size := by simp [World.setCell]
  have hs0 := HS0.out
  have hl1 : W1.heap[w.heap.size]? = some (.cells (varCells l nb0) 43 (0, 0)) := by rw [← hW1]; exact (get_old (by rw [hsc]; omega)).trans ((Below.heap_setCell _ _ _ _ (by show w.heap.size ≠ (w.heap.size + 1); omega)).trans HL0.out)
  have hb1 : W1.heap[(w.heap.size + 1)]? = some (.cells (binCells (.iface 40 (.pointer (some ⟨w.heap.size, 0, none⟩))) (.iface 40 (.pointer (some ⟨w.heap.size, 0, none⟩))) none 0 0 (nb1 W0.heap.size) op) 85 (0, 0)) := by
    rw [← hW1]
    exact (get_old (by rw [hsc]; exact l5)).trans ((Lib.heap_setCell_same HB0.out _).trans (by simp [binCells, nb0, nb1]))
  have hg1' : W1.heap[W0.heap.size]? = some (.cells #[.string l] 41 (0, 0)) := by rw [← hW1]; exact get_new hsc.symm
  have hs1' : W1.heap.size = W0.heap.size + 1 := by rw [← hW1]; simp [World.setCell]
  have hbl1 : Below w.heap.size w W1 := by rw [← hW1]; exact (HBL0.out.setCell (by show w.heap.size ≤ (w.heap.size + 1); omega) _).alloc (by rw [hsc]; omega) _
  have hok := nb1_ok hg1'
  have HB1 := Lib.hid hb1
  have HL1 := Lib.hid hl1
  have HBL1 := Lib.hid hbl1
  have HS1 := Lib.hid (show W1.heap.size = W0.heap.size + 1 ∧ W0.heap.size = w.heap.size + 2 from ⟨hs1', hs0⟩)
  have HG1 := Lib.hid hg1'
  have HOK := Lib.hid hok
  clear hW1 hsc hs0 hl1 hb1 hg1' hs1' hbl1 hok k5 z5 l5
  refine (zzCloneBin (w.heap.size + 1) w.heap.size w.heap.size none 0 0 (nb1 W0.heap.size) op [l] none l nb0 [] none l nb0 [] none _ HB1.out HOK.out HL1.out (nb0_ok _) HL1.out (nb0_ok _)).mono ?_
  rintro e W2 ⟨nb, lb', rb', n', ln', rn', rfl, p1, p2, p3, hnb, hlb', hrb', f1, f2, f3, hbl2⟩
  have hs1 := HS1.out
  have ob : W2.heap[(w.heap.size + 1)]? = _ := (hbl2.block (w.heap.size + 1) (Array.getElem?_eq_some_iff.1 HB1.out).1).trans HB1.out
  have ol : W2.heap[w.heap.size]? = _ := (hbl2.block w.heap.size (Array.getElem?_eq_some_iff.1 HL1.out).1).trans HL1.out
  obtain ⟨e1, ⟨g1, cap1, hv1, hg1, ho1⟩, x1⟩ := f1
  obtain ⟨e2, ⟨g2, cap2, hv2, hg2, _⟩, x2⟩ := f2
  obtain ⟨e3, ⟨g3, cap3, hv3, hg3, _⟩, x3⟩ := f3
  have a0 : W2.cell? ⟨nb, 0, none⟩ = some (.iface 40 (.pointer (some ⟨rb', 0, none⟩))) := (cell_of_row _ _ 0 _ _ _ hnb).trans rfl
  have a1 : W2.cell? ⟨nb, 1, none⟩ = some (.iface 40 (.pointer (some ⟨lb', 0, none⟩))) := (cell_of_row _ _ 1 _ _ _ hnb).trans rfl
  have a4 : W2.cell? ⟨nb, 4, none⟩ = some (.pointer none) := ((cell_of_row _ _ 4 _ _ _ hnb).trans rfl).trans (congrArg (fun c => some (Value.pointer c)) x1)
  have a5 : W2.cell? ⟨nb, 5, none⟩ = some (.slice (some ⟨g1, 0, none⟩) 1 cap1) := ((cell_of_row _ _ 5 _ _ _ hnb).trans rfl).trans (congrArg some hv1)
  have a12 : W2.cell? ⟨nb, 12, none⟩ = some (.int .i64 op) := (cell_of_row _ _ 12 _ _ _ hnb).trans rfl
  have b0 : W2.cell? ⟨lb', 0, none⟩ = some (.string l) := (cell_of_row _ _ 0 _ _ _ hlb').trans rfl
  have b3 : W2.cell? ⟨lb', 3, none⟩ = some (.slice (some ⟨g2, 0, none⟩) 0 cap2) := ((cell_of_row _ _ 3 _ _ _ hlb').trans rfl).trans (congrArg some hv2)
  have c0 : W2.cell? ⟨rb', 0, none⟩ = some (.string l) := (cell_of_row _ _ 0 _ _ _ hrb').trans rfl
  have c3 : W2.cell? ⟨rb', 3, none⟩ = some (.slice (some ⟨g3, 0, none⟩) 0 cap3) := ((cell_of_row _ _ 3 _ _ _ hrb').trans rfl).trans (congrArg some hv3)
  have d0 : W2.cell? ⟨(w.heap.size + 1), 0, none⟩ = some (.iface 40 (.pointer (some ⟨w.heap.size, 0, none⟩))) := (cell_of_row _ _ 0 _ _ _ ob).trans rfl
  have d1 : W2.cell? ⟨(w.heap.size + 1), 1, none⟩ = some (.iface 40 (.pointer (some ⟨w.heap.size, 0, none⟩))) := (cell_of_row _ _ 1 _ _ _ ob).trans rfl
  have d5 : W2.cell? ⟨(w.heap.size + 1), 5, none⟩ = some (.slice (some ⟨W0.heap.size, 0, none⟩) 1 1) := (cell_of_row _ _ 5 _ _ _ ob).trans rfl
  have d12 : W2.cell? ⟨(w.heap.size + 1), 12, none⟩ = some (.int .i64 op) := (cell_of_row _ _ 12 _ _ _ ob).trans rfl
  have e0 : W2.cell? ⟨w.heap.size, 0, none⟩ = some (.string l) := (cell_of_row _ _ 0 _ _ _ ol).trans rfl
  have e3' : W2.cell? ⟨w.heap.size, 3, none⟩ = some (.slice none 0 0) := (cell_of_row _ _ 3 _ _ _ ol).trans rfl
  have og : W2.heap[W0.heap.size]? = _ := (hbl2.block W0.heap.size (by omega)).trans HG1.out
  rw [hv1] at ho1
  obtain ⟨cg, fg, hcg⟩ := Lib.ownsRow_kind ho1 g1 rfl
  have hfg : fg = (0, 0) := row_free ho1 hcg
  subst hfg
  have gc : W2.cell? ⟨g1, 0, none⟩ = some (.string l) := (ho1.cellAt 0 (by simp)).trans rfl
  have pg := eq_heads (P := Tryf.prog) (tp := 88) (n := 1) Tryf.underlying88 (by kernel_rfl) (by decide) (show g1 ≠ W0.heap.size by omega) hcg og
  have pg0 := drew0 (pg 0)
  have pc := eq_heads (P := Tryf.prog) (tp := 81) (n := 13) Tryf.underlying81 (by kernel_rfl) (by decide) (show nb ≠ (w.heap.size + 1) by omega) hnb ob
  have pl1 := eq_heads (P := Tryf.prog) (tp := 40) (n := 10) Tryf.underlying40 (by kernel_rfl) (by decide) (show lb' ≠ w.heap.size by omega) hlb' ol
  have pr1 := eq_heads (P := Tryf.prog) (tp := 40) (n := 10) Tryf.underlying40 (by kernel_rfl) (by decide) (show rb' ≠ w.heap.size by omega) hrb' ol
  have plr := eq_heads (P := Tryf.prog) (tp := 40) (n := 10) Tryf.underlying40 (by kernel_rfl) (by decide) (show lb' ≠ rb' by omega) hlb' hrb'
  have ns : ∀ (a : Addr) (w : World), (binOp .neq 40 (.pointer (some a)) (.pointer (some a))).run Tryf.prog w = .ok (.bool false) w := fun a w => neq_same Tryf.underlying40 (n := 10) (by kernel_rfl) a w
  have hbel : Below w.heap.size w W2 := HBL1.out.trans (hbl2.mono (by omega))
  have HBE := Lib.hid hbel
  have pc0 := drew0 (pc 0)
  have pl10 := drew0 (pl1 0)
  have pr10 := drew0 (pr1 0)
  have plr0 := drew0 (plr 0)
  clear ob ol hbl2 hbel hnb hlb' hrb' e1 e2 e3 hv1 hv2 hv3 ho1 hg1 hg2 hg3 x1 x2 x3 hs1 og hcg
  go_wp2_with fail
  refine (binLeft nb lb' _ a1).mono ?_
  rintro e w4 ⟨rfl, rfl⟩
  go_wp2_with fail
  refine (binRight nb rb' _ a0).mono ?_
  rintro e w5 ⟨rfl, rfl⟩
  go_wp2_with fail
  go_quiet (fail)
  go_wp2_with fail
  refine (binLeft (w.heap.size + 1) w.heap.size _ (by exact d1)).mono ?_
  rintro e w6 ⟨rfl, rfl⟩
  go_wp2_with fail
  refine (binRight (w.heap.size + 1) w.heap.size _ (by exact d0)).mono ?_
  rintro e w7 ⟨rfl, rfl⟩
  go_wp2
  go_ret
  first
    | exact ⟨rfl, HBE.out⟩
    | exact ⟨rfl, drewN_below HBE.out _⟩

set_option maxHeartbeats 3200000 in
set_option maxRecDepth 100000 in
theorem walk_ft (l r : ByteArray) (op : Int) (w : World) (h1 : l.size + r.size ≤ 1048576) :
    Calls Tryf.prog 7 #[.int .i64 op, .string l, .string r, .bool false, .bool true] w fun e w' => e = .returned (.bool true) ∧ Below w.heap.size w w' := by
  have q1 : decide (1048576 < l.size) = false := decide_eq_false (by omega)
  have q2 : decide (1048576 < r.size) = false := decide_eq_false (by omega)
  have q3 : decide (1048576 < l.size + r.size) = false := decide_eq_false (by omega)
  have qs : ∀ (w : World) (a : Option Addr) (n c n' c' : Nat), (binOp .eql 35 (.slice a n c) (.slice none n' c')).run Tryf.prog w = .ok (.bool a.isNone) w := fun w a n c n' c' => Lib.run_eql_slice_nil w _ _ a n c n' c' Tryf.underlying35
  have qn : ∀ (w : World) (a : Option Addr) (n c n' c' : Nat), (binOp .neq 35 (.slice a n c) (.slice none n' c')).run Tryf.prog w = .ok (.bool (!a.isNone)) w := fun w a n c n' c' => run_neq_slice_nil_any w _ _ a n c n' c' Tryf.underlying35
  go_enter Tryf.func7, Tryf.ntmps7
  go_wp2_with fail
  refine (bytes_ok false true l r op w h1).mono ?_
  rintro e w' ⟨rfl, rfl⟩
  go_wp2_with fail
  refine (newBin op _ _ _).mono ?_
  rintro e W0 ⟨rfl, hW0⟩
  have hl0 : W0.heap[w.heap.size]? = some (.cells (varCells l nb0) 43 (0, 0)) := by rw [← hW0]; exact (get_old (by first | (simp; done) | (simp; omega))).trans ((get_old (by first | (simp; done) | (simp; omega))).trans (get_new (by first | (simp; done) | (simp; omega))))
  have hr0 : W0.heap[w.heap.size + 1]? = some (.cells (varCells r nb0) 43 (0, 0)) := by rw [← hW0]; exact (get_old (by first | (simp; done) | (simp; omega))).trans (get_new (by first | (simp; done) | (simp; omega)))
  have hb0 : W0.heap[(w.heap.size + 1 + 1)]? = some (.cells (binCells (.iface 40 (.pointer (some ⟨(w.heap.size + 1), 0, none⟩))) (.iface 40 (.pointer (some ⟨w.heap.size, 0, none⟩))) none 0 0 nb0 op) 85 (0, 0)) := by rw [← hW0]; exact get_new (by first | (simp; done) | (simp; omega))
  have hbl0 : Below w.heap.size w W0 := by rw [← hW0]; exact (((Below.refl _ w).alloc (Nat.le_refl _) _).alloc (by simp) _).alloc (by simp; omega) _
  have hs0 : W0.heap.size = w.heap.size + 3 := by rw [← hW0]; simp
  clear hW0
  have k5 : W0.cell? ⟨(w.heap.size + 1 + 1), 5, none⟩ = some (.slice none 0 0) := (cell_of_row _ _ 5 _ _ _ hb0).trans rfl
  have z5 : W0.frozen? ⟨(w.heap.size + 1 + 1), 5, none⟩ = false := frozen_of hb0 5
  have l5 : (w.heap.size + 1 + 1) < W0.heap.size := (Array.getElem?_eq_some_iff.1 hb0).1
  have HB0 := Lib.hid hb0
  have HL0 := Lib.hid hl0
  have HR0 := Lib.hid hr0
  have HBL0 := Lib.hid hbl0
  have HS0 := Lib.hid hs0
  clear hb0 hl0 hbl0 hs0 hr0
  go_wp2_with fail
  generalize hW1 : ((W0.setCell ⟨(w.heap.size + 1 + 1), 5, none⟩ (.slice (some ⟨W0.heap.size, 0, none⟩) 1 1)).alloc (.cells #[.string l] 41 (0, 0))) = W1
  have hsc : (W0.setCell ⟨(w.heap.size + 1 + 1), 5, none⟩ (.slice (some ⟨W0.heap.size, 0, none⟩) 1 1)).heap.size = W0.heap.size := by simp [World.setCell]
  have hs0 := HS0.out
  have hl1 : W1.heap[w.heap.size]? = some (.cells (varCells l nb0) 43 (0, 0)) := by rw [← hW1]; exact (get_old (by rw [hsc]; omega)).trans ((Below.heap_setCell _ _ _ _ (by show w.heap.size ≠ (w.heap.size + 1 + 1); omega)).trans HL0.out)
  have hr1 : W1.heap[w.heap.size + 1]? = some (.cells (varCells r nb0) 43 (0, 0)) := by rw [← hW1]; exact (get_old (by rw [hsc]; omega)).trans ((Below.heap_setCell _ _ _ _ (by show w.heap.size + 1 ≠ (w.heap.size + 1 + 1); omega)).trans HR0.out)
  have hb1 : W1.heap[(w.heap.size + 1 + 1)]? = some (.cells (binCells (.iface 40 (.pointer (some ⟨(w.heap.size + 1), 0, none⟩))) (.iface 40 (.pointer (some ⟨w.heap.size, 0, none⟩))) none 0 0 (nb1 W0.heap.size) op) 85 (0, 0)) := by
    rw [← hW1]
    exact (get_old (by rw [hsc]; exact l5)).trans ((Lib.heap_setCell_same HB0.out _).trans (by simp [binCells, nb0, nb1]))
  have hg1' : W1.heap[W0.heap.size]? = some (.cells #[.string l] 41 (0, 0)) := by rw [← hW1]; exact get_new hsc.symm
  have hs1' : W1.heap.size = W0.heap.size + 1 := by rw [← hW1]; simp [World.setCell]
  have hbl1 : Below w.heap.size w W1 := by rw [← hW1]; exact (HBL0.out.setCell (by show w.heap.size ≤ (w.heap.size + 1 + 1); omega) _).alloc (by rw [hsc]; omega) _
  have hok := nb1_ok hg1'
  have HB1 := Lib.hid hb1
  have HL1 := Lib.hid hl1
  have HR1 := Lib.hid hr1
  have HBL1 := Lib.hid hbl1
  have HS1 := Lib.hid (show W1.heap.size = W0.heap.size + 1 ∧ W0.heap.size = w.heap.size + 3 from ⟨hs1', hs0⟩)
  have HG1 := Lib.hid hg1'
  have HOK := Lib.hid hok
  clear hW1 hsc hs0 hl1 hb1 hg1' hs1' hbl1 hok k5 z5 l5 hr1
  refine (zzCloneBin (w.heap.size + 1 + 1) w.heap.size (w.heap.size + 1) none 0 0 (nb1 W0.heap.size) op [l] none l nb0 [] none r nb0 [] none _ HB1.out HOK.out HL1.out (nb0_ok _) HR1.out (nb0_ok _)).mono ?_
  rintro e W2 ⟨nb, lb', rb', n', ln', rn', rfl, p1, p2, p3, hnb, hlb', hrb', f1, f2, f3, hbl2⟩
  have hs1 := HS1.out
  have ob : W2.heap[(w.heap.size + 1 + 1)]? = _ := (hbl2.block (w.heap.size + 1 + 1) (Array.getElem?_eq_some_iff.1 HB1.out).1).trans HB1.out
  have ol : W2.heap[w.heap.size]? = _ := (hbl2.block w.heap.size (Array.getElem?_eq_some_iff.1 HL1.out).1).trans HL1.out
  have orr : W2.heap[w.heap.size + 1]? = _ := (hbl2.block (w.heap.size + 1) (Array.getElem?_eq_some_iff.1 HR1.out).1).trans HR1.out
  obtain ⟨e1, ⟨g1, cap1, hv1, hg1, ho1⟩, x1⟩ := f1
  obtain ⟨e2, ⟨g2, cap2, hv2, hg2, _⟩, x2⟩ := f2
  obtain ⟨e3, ⟨g3, cap3, hv3, hg3, _⟩, x3⟩ := f3
  have a0 : W2.cell? ⟨nb, 0, none⟩ = some (.iface 40 (.pointer (some ⟨rb', 0, none⟩))) := (cell_of_row _ _ 0 _ _ _ hnb).trans rfl
  have a1 : W2.cell? ⟨nb, 1, none⟩ = some (.iface 40 (.pointer (some ⟨lb', 0, none⟩))) := (cell_of_row _ _ 1 _ _ _ hnb).trans rfl
  have a4 : W2.cell? ⟨nb, 4, none⟩ = some (.pointer none) := ((cell_of_row _ _ 4 _ _ _ hnb).trans rfl).trans (congrArg (fun c => some (Value.pointer c)) x1)
  have a5 : W2.cell? ⟨nb, 5, none⟩ = some (.slice (some ⟨g1, 0, none⟩) 1 cap1) := ((cell_of_row _ _ 5 _ _ _ hnb).trans rfl).trans (congrArg some hv1)
  have a12 : W2.cell? ⟨nb, 12, none⟩ = some (.int .i64 op) := (cell_of_row _ _ 12 _ _ _ hnb).trans rfl
  have b0 : W2.cell? ⟨lb', 0, none⟩ = some (.string l) := (cell_of_row _ _ 0 _ _ _ hlb').trans rfl
  have b3 : W2.cell? ⟨lb', 3, none⟩ = some (.slice (some ⟨g2, 0, none⟩) 0 cap2) := ((cell_of_row _ _ 3 _ _ _ hlb').trans rfl).trans (congrArg some hv2)
  have c0 : W2.cell? ⟨rb', 0, none⟩ = some (.string r) := (cell_of_row _ _ 0 _ _ _ hrb').trans rfl
  have c3 : W2.cell? ⟨rb', 3, none⟩ = some (.slice (some ⟨g3, 0, none⟩) 0 cap3) := ((cell_of_row _ _ 3 _ _ _ hrb').trans rfl).trans (congrArg some hv3)
  have d0 : W2.cell? ⟨(w.heap.size + 1 + 1), 0, none⟩ = some (.iface 40 (.pointer (some ⟨(w.heap.size + 1), 0, none⟩))) := (cell_of_row _ _ 0 _ _ _ ob).trans rfl
  have d1 : W2.cell? ⟨(w.heap.size + 1 + 1), 1, none⟩ = some (.iface 40 (.pointer (some ⟨w.heap.size, 0, none⟩))) := (cell_of_row _ _ 1 _ _ _ ob).trans rfl
  have d5 : W2.cell? ⟨(w.heap.size + 1 + 1), 5, none⟩ = some (.slice (some ⟨W0.heap.size, 0, none⟩) 1 1) := (cell_of_row _ _ 5 _ _ _ ob).trans rfl
  have d12 : W2.cell? ⟨(w.heap.size + 1 + 1), 12, none⟩ = some (.int .i64 op) := (cell_of_row _ _ 12 _ _ _ ob).trans rfl
  have e0 : W2.cell? ⟨w.heap.size, 0, none⟩ = some (.string l) := (cell_of_row _ _ 0 _ _ _ ol).trans rfl
  have e3' : W2.cell? ⟨w.heap.size, 3, none⟩ = some (.slice none 0 0) := (cell_of_row _ _ 3 _ _ _ ol).trans rfl
  have r0 : W2.cell? ⟨w.heap.size + 1, 0, none⟩ = some (.string r) := (cell_of_row _ _ 0 _ _ _ orr).trans rfl
  have r3 : W2.cell? ⟨w.heap.size + 1, 3, none⟩ = some (.slice none 0 0) := (cell_of_row _ _ 3 _ _ _ orr).trans rfl
  have og : W2.heap[W0.heap.size]? = _ := (hbl2.block W0.heap.size (by omega)).trans HG1.out
  rw [hv1] at ho1
  obtain ⟨cg, fg, hcg⟩ := Lib.ownsRow_kind ho1 g1 rfl
  have hfg : fg = (0, 0) := row_free ho1 hcg
  subst hfg
  have gc : W2.cell? ⟨g1, 0, none⟩ = some (.string l) := (ho1.cellAt 0 (by simp)).trans rfl
  have pg := eq_heads (P := Tryf.prog) (tp := 88) (n := 1) Tryf.underlying88 (by kernel_rfl) (by decide) (show g1 ≠ W0.heap.size by omega) hcg og
  have pg0 := drew0 (pg 0)
  have pc := eq_heads (P := Tryf.prog) (tp := 81) (n := 13) Tryf.underlying81 (by kernel_rfl) (by decide) (show nb ≠ (w.heap.size + 1 + 1) by omega) hnb ob
  have pl1 := eq_heads (P := Tryf.prog) (tp := 40) (n := 10) Tryf.underlying40 (by kernel_rfl) (by decide) (show lb' ≠ w.heap.size by omega) hlb' ol
  have pr1 := eq_heads (P := Tryf.prog) (tp := 40) (n := 10) Tryf.underlying40 (by kernel_rfl) (by decide) (show rb' ≠ w.heap.size by omega) hrb' ol
  have pl2 := eq_heads (P := Tryf.prog) (tp := 40) (n := 10) Tryf.underlying40 (by kernel_rfl) (by decide) (show lb' ≠ w.heap.size + 1 by omega) hlb' orr
  have pr2 := eq_heads (P := Tryf.prog) (tp := 40) (n := 10) Tryf.underlying40 (by kernel_rfl) (by decide) (show rb' ≠ w.heap.size + 1 by omega) hrb' orr
  have plr := eq_heads (P := Tryf.prog) (tp := 40) (n := 10) Tryf.underlying40 (by kernel_rfl) (by decide) (show lb' ≠ rb' by omega) hlb' hrb'
  have ns : ∀ (a : Addr) (w : World), (binOp .neq 40 (.pointer (some a)) (.pointer (some a))).run Tryf.prog w = .ok (.bool false) w := fun a w => neq_same Tryf.underlying40 (n := 10) (by kernel_rfl) a w
  have hbel : Below w.heap.size w W2 := HBL1.out.trans (hbl2.mono (by omega))
  have HBE := Lib.hid hbel
  have pc0 := drew0 (pc 0)
  have pl10 := drew0 (pl1 0)
  have pr10 := drew0 (pr1 0)
  have plr0 := drew0 (plr 0)
  have pl20 := drew0 (pl2 0)
  have pr20 := drew0 (pr2 0)
  clear ob ol hbl2 hbel hnb hlb' hrb' e1 e2 e3 hv1 hv2 hv3 ho1 hg1 hg2 hg3 x1 x2 x3 hs1 og hcg orr
  go_wp2_with fail
  refine (binLeft nb lb' _ a1).mono ?_
  rintro e w4 ⟨rfl, rfl⟩
  go_wp2_with fail
  refine (binRight nb rb' _ a0).mono ?_
  rintro e w5 ⟨rfl, rfl⟩
  go_wp2_with fail
  go_quiet (fail)
  go_wp2_with fail
  refine (binLeft (w.heap.size + 1 + 1) w.heap.size _ (by exact d1)).mono ?_
  rintro e w6 ⟨rfl, rfl⟩
  go_wp2_with fail
  refine (binRight (w.heap.size + 1 + 1) (w.heap.size + 1) _ (by exact d0)).mono ?_
  rintro e w7 ⟨rfl, rfl⟩
  go_wp2
  go_ret
  first
    | exact ⟨rfl, HBE.out⟩
    | exact ⟨rfl, drewN_below HBE.out _⟩

set_option maxHeartbeats 3200000 in
set_option maxRecDepth 100000 in
theorem walk_tf (l r : ByteArray) (op : Int) (w : World) (h1 : l.size + r.size ≤ 1048576) :
    Calls Tryf.prog 7 #[.int .i64 op, .string l, .string r, .bool true, .bool false] w fun e w' => e = .returned (.bool true) ∧ Below w.heap.size w w' := by
  have q1 : decide (1048576 < l.size) = false := decide_eq_false (by omega)
  have q2 : decide (1048576 < r.size) = false := decide_eq_false (by omega)
  have q3 : decide (1048576 < l.size + r.size) = false := decide_eq_false (by omega)
  have qs : ∀ (w : World) (a : Option Addr) (n c n' c' : Nat), (binOp .eql 35 (.slice a n c) (.slice none n' c')).run Tryf.prog w = .ok (.bool a.isNone) w := fun w a n c n' c' => Lib.run_eql_slice_nil w _ _ a n c n' c' Tryf.underlying35
  have qn : ∀ (w : World) (a : Option Addr) (n c n' c' : Nat), (binOp .neq 35 (.slice a n c) (.slice none n' c')).run Tryf.prog w = .ok (.bool (!a.isNone)) w := fun w a n c n' c' => run_neq_slice_nil_any w _ _ a n c n' c' Tryf.underlying35
  go_enter Tryf.func7, Tryf.ntmps7
  go_wp2_with fail
  refine (bytes_ok true false l r op w h1).mono ?_
  rintro e w' ⟨rfl, rfl⟩
  go_wp2_with fail
  refine (newBin op _ _ _).mono ?_
  rintro e W0 ⟨rfl, hW0⟩
  have hl0 : W0.heap[w.heap.size]? = some (.cells (varCells l nb0) 43 (0, 0)) := by rw [← hW0]; exact (get_old (by first | (simp; done) | (simp; omega))).trans (get_new (by first | (simp; done) | (simp; omega)))
  have hb0 : W0.heap[(w.heap.size + 1)]? = some (.cells (binCells (.iface 40 (.pointer (some ⟨w.heap.size, 0, none⟩))) (.iface 40 (.pointer (some ⟨w.heap.size, 0, none⟩))) none 0 0 nb0 op) 85 (0, 0)) := by rw [← hW0]; exact get_new (by first | (simp; done) | (simp; omega))
  have hbl0 : Below w.heap.size w W0 := by rw [← hW0]; exact ((Below.refl _ w).alloc (Nat.le_refl _) _).alloc (by simp) _
  have hs0 : W0.heap.size = w.heap.size + 2 := by rw [← hW0]; simp
  clear hW0
  have HB1 := Lib.hid hb0
  have HL1 := Lib.hid hl0
  have HBL1 := Lib.hid hbl0
  have HS1 := Lib.hid hs0
  clear hb0 hl0 hbl0 hs0
  go_wp2_with fail
  refine (zzCloneBin (w.heap.size + 1) w.heap.size w.heap.size none 0 0 nb0 op [] none l nb0 [] none l nb0 [] none _ HB1.out (nb0_ok _) HL1.out (nb0_ok _) HL1.out (nb0_ok _)).mono ?_
  rintro e W2 ⟨nb, lb', rb', n', ln', rn', rfl, p1, p2, p3, hnb, hlb', hrb', f1, f2, f3, hbl2⟩
  have hs1 := HS1.out
  have ob : W2.heap[(w.heap.size + 1)]? = _ := (hbl2.block (w.heap.size + 1) (Array.getElem?_eq_some_iff.1 HB1.out).1).trans HB1.out
  have ol : W2.heap[w.heap.size]? = _ := (hbl2.block w.heap.size (Array.getElem?_eq_some_iff.1 HL1.out).1).trans HL1.out
  obtain ⟨e1, ⟨g1, cap1, hv1, hg1, ho1⟩, x1⟩ := f1
  obtain ⟨e2, ⟨g2, cap2, hv2, hg2, _⟩, x2⟩ := f2
  obtain ⟨e3, ⟨g3, cap3, hv3, hg3, _⟩, x3⟩ := f3
  have a0 : W2.cell? ⟨nb, 0, none⟩ = some (.iface 40 (.pointer (some ⟨rb', 0, none⟩))) := (cell_of_row _ _ 0 _ _ _ hnb).trans rfl
  have a1 : W2.cell? ⟨nb, 1, none⟩ = some (.iface 40 (.pointer (some ⟨lb', 0, none⟩))) := (cell_of_row _ _ 1 _ _ _ hnb).trans rfl
  have a4 : W2.cell? ⟨nb, 4, none⟩ = some (.pointer none) := ((cell_of_row _ _ 4 _ _ _ hnb).trans rfl).trans (congrArg (fun c => some (Value.pointer c)) x1)
  have a5 : W2.cell? ⟨nb, 5, none⟩ = some (.slice (some ⟨g1, 0, none⟩) 0 cap1) := ((cell_of_row _ _ 5 _ _ _ hnb).trans rfl).trans (congrArg some hv1)
  have a12 : W2.cell? ⟨nb, 12, none⟩ = some (.int .i64 op) := (cell_of_row _ _ 12 _ _ _ hnb).trans rfl
  have b0 : W2.cell? ⟨lb', 0, none⟩ = some (.string l) := (cell_of_row _ _ 0 _ _ _ hlb').trans rfl
  have b3 : W2.cell? ⟨lb', 3, none⟩ = some (.slice (some ⟨g2, 0, none⟩) 0 cap2) := ((cell_of_row _ _ 3 _ _ _ hlb').trans rfl).trans (congrArg some hv2)
  have c0 : W2.cell? ⟨rb', 0, none⟩ = some (.string l) := (cell_of_row _ _ 0 _ _ _ hrb').trans rfl
  have c3 : W2.cell? ⟨rb', 3, none⟩ = some (.slice (some ⟨g3, 0, none⟩) 0 cap3) := ((cell_of_row _ _ 3 _ _ _ hrb').trans rfl).trans (congrArg some hv3)
  have d0 : W2.cell? ⟨(w.heap.size + 1), 0, none⟩ = some (.iface 40 (.pointer (some ⟨w.heap.size, 0, none⟩))) := (cell_of_row _ _ 0 _ _ _ ob).trans rfl
  have d1 : W2.cell? ⟨(w.heap.size + 1), 1, none⟩ = some (.iface 40 (.pointer (some ⟨w.heap.size, 0, none⟩))) := (cell_of_row _ _ 1 _ _ _ ob).trans rfl
  have d5 : W2.cell? ⟨(w.heap.size + 1), 5, none⟩ = some (.slice none 0 0) := (cell_of_row _ _ 5 _ _ _ ob).trans rfl
  have d12 : W2.cell? ⟨(w.heap.size + 1), 12, none⟩ = some (.int .i64 op) := (cell_of_row _ _ 12 _ _ _ ob).trans rfl
  have e0 : W2.cell? ⟨w.heap.size, 0, none⟩ = some (.string l) := (cell_of_row _ _ 0 _ _ _ ol).trans rfl
  have e3' : W2.cell? ⟨w.heap.size, 3, none⟩ = some (.slice none 0 0) := (cell_of_row _ _ 3 _ _ _ ol).trans rfl
  have pc := eq_heads (P := Tryf.prog) (tp := 81) (n := 13) Tryf.underlying81 (by kernel_rfl) (by decide) (show nb ≠ (w.heap.size + 1) by omega) hnb ob
  have pl1 := eq_heads (P := Tryf.prog) (tp := 40) (n := 10) Tryf.underlying40 (by kernel_rfl) (by decide) (show lb' ≠ w.heap.size by omega) hlb' ol
  have pr1 := eq_heads (P := Tryf.prog) (tp := 40) (n := 10) Tryf.underlying40 (by kernel_rfl) (by decide) (show rb' ≠ w.heap.size by omega) hrb' ol
  have plr := eq_heads (P := Tryf.prog) (tp := 40) (n := 10) Tryf.underlying40 (by kernel_rfl) (by decide) (show lb' ≠ rb' by omega) hlb' hrb'
  have ns : ∀ (a : Addr) (w : World), (binOp .neq 40 (.pointer (some a)) (.pointer (some a))).run Tryf.prog w = .ok (.bool false) w := fun a w => neq_same Tryf.underlying40 (n := 10) (by kernel_rfl) a w
  have hbel : Below w.heap.size w W2 := HBL1.out.trans (hbl2.mono (by omega))
  have HBE := Lib.hid hbel
  have pc0 := drew0 (pc 0)
  have pl10 := drew0 (pl1 0)
  have pr10 := drew0 (pr1 0)
  have plr0 := drew0 (plr 0)
  clear ob ol hbl2 hbel hnb hlb' hrb' e1 e2 e3 hv1 hv2 hv3 ho1 hg1 hg2 hg3 x1 x2 x3 hs1
  go_wp2_with fail
  refine (binLeft nb lb' _ a1).mono ?_
  rintro e w4 ⟨rfl, rfl⟩
  go_wp2_with fail
  refine (binRight nb rb' _ a0).mono ?_
  rintro e w5 ⟨rfl, rfl⟩
  go_wp2_with fail
  refine (binLeft (w.heap.size + 1) w.heap.size _ (by exact d1)).mono ?_
  rintro e w6 ⟨rfl, rfl⟩
  go_wp2_with fail
  refine (binRight (w.heap.size + 1) w.heap.size _ (by exact d0)).mono ?_
  rintro e w7 ⟨rfl, rfl⟩
  go_wp2
  go_ret
  first
    | exact ⟨rfl, HBE.out⟩
    | exact ⟨rfl, drewN_below HBE.out _⟩

set_option maxHeartbeats 3200000 in
set_option maxRecDepth 100000 in
theorem walk_ff (l r : ByteArray) (op : Int) (w : World) (h1 : l.size + r.size ≤ 1048576) :
    Calls Tryf.prog 7 #[.int .i64 op, .string l, .string r, .bool false, .bool false] w fun e w' => e = .returned (.bool true) ∧ Below w.heap.size w w' := by
  have q1 : decide (1048576 < l.size) = false := decide_eq_false (by omega)
  have q2 : decide (1048576 < r.size) = false := decide_eq_false (by omega)
  have q3 : decide (1048576 < l.size + r.size) = false := decide_eq_false (by omega)
  have qs : ∀ (w : World) (a : Option Addr) (n c n' c' : Nat), (binOp .eql 35 (.slice a n c) (.slice none n' c')).run Tryf.prog w = .ok (.bool a.isNone) w := fun w a n c n' c' => Lib.run_eql_slice_nil w _ _ a n c n' c' Tryf.underlying35
  have qn : ∀ (w : World) (a : Option Addr) (n c n' c' : Nat), (binOp .neq 35 (.slice a n c) (.slice none n' c')).run Tryf.prog w = .ok (.bool (!a.isNone)) w := fun w a n c n' c' => run_neq_slice_nil_any w _ _ a n c n' c' Tryf.underlying35
  go_enter Tryf.func7, Tryf.ntmps7
  go_wp2_with fail
  refine (bytes_ok false false l r op w h1).mono ?_
  rintro e w' ⟨rfl, rfl⟩
  go_wp2_with fail
  refine (newBin op _ _ _).mono ?_
  rintro e W0 ⟨rfl, hW0⟩
  have hl0 : W0.heap[w.heap.size]? = some (.cells (varCells l nb0) 43 (0, 0)) := by rw [← hW0]; exact (get_old (by first | (simp; done) | (simp; omega))).trans ((get_old (by first | (simp; done) | (simp; omega))).trans (get_new (by first | (simp; done) | (simp; omega))))
  have hr0 : W0.heap[w.heap.size + 1]? = some (.cells (varCells r nb0) 43 (0, 0)) := by rw [← hW0]; exact (get_old (by first | (simp; done) | (simp; omega))).trans (get_new (by first | (simp; done) | (simp; omega)))
  have hb0 : W0.heap[(w.heap.size + 1 + 1)]? = some (.cells (binCells (.iface 40 (.pointer (some ⟨(w.heap.size + 1), 0, none⟩))) (.iface 40 (.pointer (some ⟨w.heap.size, 0, none⟩))) none 0 0 nb0 op) 85 (0, 0)) := by rw [← hW0]; exact get_new (by first | (simp; done) | (simp; omega))
  have hbl0 : Below w.heap.size w W0 := by rw [← hW0]; exact (((Below.refl _ w).alloc (Nat.le_refl _) _).alloc (by simp) _).alloc (by simp; omega) _
  have hs0 : W0.heap.size = w.heap.size + 3 := by rw [← hW0]; simp
  clear hW0
  have HB1 := Lib.hid hb0
  have HL1 := Lib.hid hl0
  have HR1 := Lib.hid hr0
  have HBL1 := Lib.hid hbl0
  have HS1 := Lib.hid hs0
  clear hb0 hl0 hbl0 hs0 hr0
  go_wp2_with fail
  refine (zzCloneBin (w.heap.size + 1 + 1) w.heap.size (w.heap.size + 1) none 0 0 nb0 op [] none l nb0 [] none r nb0 [] none _ HB1.out (nb0_ok _) HL1.out (nb0_ok _) HR1.out (nb0_ok _)).mono ?_
  rintro e W2 ⟨nb, lb', rb', n', ln', rn', rfl, p1, p2, p3, hnb, hlb', hrb', f1, f2, f3, hbl2⟩
  have hs1 := HS1.out
  have ob : W2.heap[(w.heap.size + 1 + 1)]? = _ := (hbl2.block (w.heap.size + 1 + 1) (Array.getElem?_eq_some_iff.1 HB1.out).1).trans HB1.out
  have ol : W2.heap[w.heap.size]? = _ := (hbl2.block w.heap.size (Array.getElem?_eq_some_iff.1 HL1.out).1).trans HL1.out
  have orr : W2.heap[w.heap.size + 1]? = _ := (hbl2.block (w.heap.size + 1) (Array.getElem?_eq_some_iff.1 HR1.out).1).trans HR1.out
  obtain ⟨e1, ⟨g1, cap1, hv1, hg1, ho1⟩, x1⟩ := f1
  obtain ⟨e2, ⟨g2, cap2, hv2, hg2, _⟩, x2⟩ := f2
  obtain ⟨e3, ⟨g3, cap3, hv3, hg3, _⟩, x3⟩ := f3
  have a0 : W2.cell? ⟨nb, 0, none⟩ = some (.iface 40 (.pointer (some ⟨rb', 0, none⟩))) := (cell_of_row _ _ 0 _ _ _ hnb).trans rfl
  have a1 : W2.cell? ⟨nb, 1, none⟩ = some (.iface 40 (.pointer (some ⟨lb', 0, none⟩))) := (cell_of_row _ _ 1 _ _ _ hnb).trans rfl
  have a4 : W2.cell? ⟨nb, 4, none⟩ = some (.pointer none) := ((cell_of_row _ _ 4 _ _ _ hnb).trans rfl).trans (congrArg (fun c => some (Value.pointer c)) x1)
  have a5 : W2.cell? ⟨nb, 5, none⟩ = some (.slice (some ⟨g1, 0, none⟩) 0 cap1) := ((cell_of_row _ _ 5 _ _ _ hnb).trans rfl).trans (congrArg some hv1)
  have a12 : W2.cell? ⟨nb, 12, none⟩ = some (.int .i64 op) := (cell_of_row _ _ 12 _ _ _ hnb).trans rfl
  have b0 : W2.cell? ⟨lb', 0, none⟩ = some (.string l) := (cell_of_row _ _ 0 _ _ _ hlb').trans rfl
  have b3 : W2.cell? ⟨lb', 3, none⟩ = some (.slice (some ⟨g2, 0, none⟩) 0 cap2) := ((cell_of_row _ _ 3 _ _ _ hlb').trans rfl).trans (congrArg some hv2)
  have c0 : W2.cell? ⟨rb', 0, none⟩ = some (.string r) := (cell_of_row _ _ 0 _ _ _ hrb').trans rfl
  have c3 : W2.cell? ⟨rb', 3, none⟩ = some (.slice (some ⟨g3, 0, none⟩) 0 cap3) := ((cell_of_row _ _ 3 _ _ _ hrb').trans rfl).trans (congrArg some hv3)
  have d0 : W2.cell? ⟨(w.heap.size + 1 + 1), 0, none⟩ = some (.iface 40 (.pointer (some ⟨(w.heap.size + 1), 0, none⟩))) := (cell_of_row _ _ 0 _ _ _ ob).trans rfl
  have d1 : W2.cell? ⟨(w.heap.size + 1 + 1), 1, none⟩ = some (.iface 40 (.pointer (some ⟨w.heap.size, 0, none⟩))) := (cell_of_row _ _ 1 _ _ _ ob).trans rfl
  have d5 : W2.cell? ⟨(w.heap.size + 1 + 1), 5, none⟩ = some (.slice none 0 0) := (cell_of_row _ _ 5 _ _ _ ob).trans rfl
  have d12 : W2.cell? ⟨(w.heap.size + 1 + 1), 12, none⟩ = some (.int .i64 op) := (cell_of_row _ _ 12 _ _ _ ob).trans rfl
  have e0 : W2.cell? ⟨w.heap.size, 0, none⟩ = some (.string l) := (cell_of_row _ _ 0 _ _ _ ol).trans rfl
  have e3' : W2.cell? ⟨w.heap.size, 3, none⟩ = some (.slice none 0 0) := (cell_of_row _ _ 3 _ _ _ ol).trans rfl
  have r0 : W2.cell? ⟨w.heap.size + 1, 0, none⟩ = some (.string r) := (cell_of_row _ _ 0 _ _ _ orr).trans rfl
  have r3 : W2.cell? ⟨w.heap.size + 1, 3, none⟩ = some (.slice none 0 0) := (cell_of_row _ _ 3 _ _ _ orr).trans rfl
  have pc := eq_heads (P := Tryf.prog) (tp := 81) (n := 13) Tryf.underlying81 (by kernel_rfl) (by decide) (show nb ≠ (w.heap.size + 1 + 1) by omega) hnb ob
  have pl1 := eq_heads (P := Tryf.prog) (tp := 40) (n := 10) Tryf.underlying40 (by kernel_rfl) (by decide) (show lb' ≠ w.heap.size by omega) hlb' ol
  have pr1 := eq_heads (P := Tryf.prog) (tp := 40) (n := 10) Tryf.underlying40 (by kernel_rfl) (by decide) (show rb' ≠ w.heap.size by omega) hrb' ol
  have pl2 := eq_heads (P := Tryf.prog) (tp := 40) (n := 10) Tryf.underlying40 (by kernel_rfl) (by decide) (show lb' ≠ w.heap.size + 1 by omega) hlb' orr
  have pr2 := eq_heads (P := Tryf.prog) (tp := 40) (n := 10) Tryf.underlying40 (by kernel_rfl) (by decide) (show rb' ≠ w.heap.size + 1 by omega) hrb' orr
  have plr := eq_heads (P := Tryf.prog) (tp := 40) (n := 10) Tryf.underlying40 (by kernel_rfl) (by decide) (show lb' ≠ rb' by omega) hlb' hrb'
  have ns : ∀ (a : Addr) (w : World), (binOp .neq 40 (.pointer (some a)) (.pointer (some a))).run Tryf.prog w = .ok (.bool false) w := fun a w => neq_same Tryf.underlying40 (n := 10) (by kernel_rfl) a w
  have hbel : Below w.heap.size w W2 := HBL1.out.trans (hbl2.mono (by omega))
  have HBE := Lib.hid hbel
  have pc0 := drew0 (pc 0)
  have pl10 := drew0 (pl1 0)
  have pr10 := drew0 (pr1 0)
  have plr0 := drew0 (plr 0)
  have pl20 := drew0 (pl2 0)
  have pr20 := drew0 (pr2 0)
  clear ob ol hbl2 hbel hnb hlb' hrb' e1 e2 e3 hv1 hv2 hv3 ho1 hg1 hg2 hg3 x1 x2 x3 hs1 orr
  go_wp2_with fail
  refine (binLeft nb lb' _ a1).mono ?_
  rintro e w4 ⟨rfl, rfl⟩
  go_wp2_with fail
  refine (binRight nb rb' _ a0).mono ?_
  rintro e w5 ⟨rfl, rfl⟩
  go_wp2_with fail
  refine (binLeft (w.heap.size + 1 + 1) w.heap.size _ (by exact d1)).mono ?_
  rintro e w6 ⟨rfl, rfl⟩
  go_wp2_with fail
  refine (binRight (w.heap.size + 1 + 1) (w.heap.size + 1) _ (by exact d0)).mono ?_
  rintro e w7 ⟨rfl, rfl⟩
  go_wp2
  go_ret
  first
    | exact ⟨rfl, HBE.out⟩
    | exact ⟨rfl, drewN_below HBE.out _⟩

set_option maxRecDepth 100000 in
theorem walk (op : Int) (l r : ByteArray) (b1 b2 : Bool) (w : World) (_ : (Lit.int .i64 op).wf = true) (hs : l.size ≤ maxLen) (hs2 : r.size ≤ maxLen) :
    Calls Tryf.prog 7 #[.int .i64 op, .string l, .string r, .bool b1, .bool b2] w fun e w' => e = .returned (.bool true) ∧ Below w.heap.size w w' := by
  by_cases hz : 1048576 < l.size + r.size
  · go_enter Tryf.func7, Tryf.ntmps7
    go_wp2_with (go_at_call 35; refine (bytes_no b1 b2 l r op _ hs hs2 hz).mono ?_; rintro e w' ⟨rfl, rfl⟩)
    go_ret
    exact ⟨rfl, Below.refl _ _⟩
  have hz' : l.size + r.size ≤ 1048576 := by omega
  cases b1 <;> cases b2
  · exact walk_ff l r op w hz'
  · exact walk_ft l r op w hz'
  · exact walk_tf l r op w hz'
  · exact walk_tt l r op w hz'

end Go.Proofs.YtgmmbimbbkbjfaaFmt.fnCloneBinaryUnsharesChildren
