/-
  The walks of FnBinaryOpPrecedenceRangeAndLayers and FnExprPrecedenceAgreesAndOrders.
-/
import Derived.Test.YtjbjdoahpeghpabDoorPrec
import Derived.Test.YtjbjdoahpeghpabDoorPrecAs
namespace Go.Proofs.YtjbjdoahpeghpabDoor
open Go Go.RowKit

theorem prec_in : ∀ n : Nat, n < 19 → decide ((4 : Int) < precOf n) = true ∧ decide (precOf n < 16) = true := by decide
theorem prec_out {k : Int} (h : k < 0 ∨ 18 < k) : precOf k = 0 := by unfold precOf; exact if_neg (by omega)
theorem wf_nat {n : Nat} (h : n < 19) : (Lit.int .i64 (n : Int)).wf = true := by
  simp [Lit.wf, IntKind.min, IntKind.max, IntKind.signed, IntKind.bits]; omega

namespace fnBinaryOpPrecedenceRangeAndLayers
theorem walk (k : Int) (w : World) (hk : (Lit.int .i64 k).wf = true) (hL : laidMetH Tryd.prog Rows.fnBinaryOpPrecedenceRangeAndLayersRow.laid w) :
    Calls Tryd.prog 3 #[.int .i64 k] w fun e w' => e = .returned (.bool true) ∧ Below w.heap.size w w' := by
  obtain ⟨bm, h⟩ := of_prec hL
  clear hL
  have H := Lib.hid h
  have HK := Lib.hid hk
  clear h hk
  have q0 : precOf 0 = 5 := rfl
  have q1 : precOf 3 = 6 := rfl
  have q2 : precOf 5 = 7 := rfl
  have q3 : precOf 9 = 8 := rfl
  have q4 : precOf 12 = 9 := rfl
  have q5 : precOf 14 = 10 := rfl
  have q6 : precOf 15 = 11 := rfl
  have q7 : precOf 16 = 12 := rfl
  have q8 : precOf 17 = 13 := rfl
  have q9 : precOf 18 = 14 := rfl
  by_cases hin : k < 0 ∨ 18 < k
  · have hp := prec_out hin
    have HP := Lib.hid hp
    have HI := Lib.hid hin
    clear hp hin
    go_enter Tryd.func3, Tryd.ntmps3
    go_wp2_with fail
    refine (bopPrec k HK.out bm _ w H.out (Below.refl _ _)).mono ?_
    rintro e w' ⟨rfl, rfl⟩
    rw [HP.out]
    go_wp2_with fail
    refine (named_no k HI.out _).mono ?_
    rintro e w' ⟨rfl, rfl⟩
    iterate 10
      go_wp2_with fail
      refine (bopPrec _ (by decide) bm _ w H.out (Below.refl _ _)).mono ?_
      rintro e w' ⟨rfl, rfl⟩
    go_wp2
    go_ret
    exact ⟨rfl, Below.refl _ _⟩
  · obtain ⟨n, rfl⟩ := Int.eq_ofNat_of_zero_le (show 0 ≤ k by omega)
    have hn : n < 19 := by omega
    obtain ⟨h4, h16⟩ := prec_in n hn
    clear hin
    go_enter Tryd.func3, Tryd.ntmps3
    go_wp2_with fail
    refine (bopPrec n HK.out bm _ w H.out (Below.refl _ _)).mono ?_
    rintro e w' ⟨rfl, rfl⟩
    go_wp2_with fail
    refine (named_yes n hn _).mono ?_
    rintro e w' ⟨rfl, rfl⟩
    iterate 10
      go_wp2_with fail
      refine (bopPrec _ (by decide) bm _ w H.out (Below.refl _ _)).mono ?_
      rintro e w' ⟨rfl, rfl⟩
    go_wp2
    go_ret
    exact ⟨rfl, Below.refl _ _⟩
end fnBinaryOpPrecedenceRangeAndLayers

set_option maxRecDepth 100000 in
/-- ExprPrecedence at a Binary. -/
theorem expr_bin (a : Nat) (k : Int) (hk : (Lit.int .i64 k).wf = true) (bm : Nat) (w w0 : World) (h : PrecIn w0 bm) (hw : Below w0.heap.size w0 w) (hc4 : w.cell? ⟨a, 12, none⟩ = some (.int .i64 k)) :
    Calls Tryd.prog 7 #[.iface 28 (.pointer (some ⟨a, 0, none⟩))] w fun e w' => e = .returned (.int .i64 (precOf k)) ∧ ∃ n, w' = w.drewN n := by
  obtain ⟨hb, hc, hg, hl⟩ := h
  have hc' : w.cell? ⟨0, 0, none⟩ = some (.map (some bm)) := by rw [hw.cell (p := ⟨_, 0, none⟩) hg]; exact hc
  have hrun : ∀ n, (Instr.lookup 64 (.map (some bm)) (.int .i64 k) false).run Tryd.prog (w.drewN n) = .ok (.int .i64 (precOf k)) (w.drewN n) := fun n => hl (w.drewN n) (hw.block bm hb) k hk
  clear hl hc hw
  go_enter Tryd.func7, Tryd.ntmps7
  go_wp2
  go_quiet (fail)
  go_wp2
  go_ret
  exact ⟨rfl, _, rfl⟩
set_option maxRecDepth 100000 in
theorem expr_var (p : Value) (w : World) : Calls Tryd.prog 7 #[.iface 49 p] w fun e w' => e = .returned (.int .i64 1) ∧ w = w' := by
  go_enter Tryd.func7, Tryd.ntmps7
  go_wp2
  go_ret
  exact ⟨rfl, rfl⟩
set_option maxRecDepth 100000 in
theorem expr_index (p : Value) (w : World) : Calls Tryd.prog 7 #[.iface 53 p] w fun e w' => e = .returned (.int .i64 2) ∧ w = w' := by
  go_enter Tryd.func7, Tryd.ntmps7
  go_wp2
  go_ret
  exact ⟨rfl, rfl⟩
set_option maxRecDepth 100000 in
theorem expr_unary (p : Value) (w : World) : Calls Tryd.prog 7 #[.iface 57 p] w fun e w' => e = .returned (.int .i64 4) ∧ w = w' := by
  go_enter Tryd.func7, Tryd.ntmps7
  go_wp2
  go_ret
  exact ⟨rfl, rfl⟩
set_option maxRecDepth 100000 in
theorem expr_cond (p : Value) (w : World) : Calls Tryd.prog 7 #[.iface 61 p] w fun e w' => e = .returned (.int .i64 16) ∧ w = w' := by
  go_enter Tryd.func7, Tryd.ntmps7
  go_wp2
  go_ret
  exact ⟨rfl, rfl⟩
set_option maxRecDepth 100000 in
theorem expr_insuper (p : Value) (bm : Nat) (w w0 : World) (h : PrecIn w0 bm) (hw : Below w0.heap.size w0 w) : Calls Tryd.prog 7 #[.iface 46 p] w fun e w' => e = .returned (.int .i64 8) ∧ w = w' := by
  obtain ⟨hb, hc, hg, hl⟩ := h
  have hc' : w.cell? ⟨0, 0, none⟩ = some (.map (some bm)) := by rw [hw.cell (p := ⟨_, 0, none⟩) hg]; exact hc
  have hrun : (Instr.lookup 64 (.map (some bm)) (.int .i64 11) false).run Tryd.prog w = .ok (.int .i64 8) w := hl w (hw.block bm hb) 11 (by decide)
  clear hl hc hw
  go_enter Tryd.func7, Tryd.ntmps7
  go_wp2
  go_ret
  exact ⟨rfl, rfl⟩

theorem bl {w0 w : World} (h : Below w0.heap.size w0 w) (o : Obj) : Below w0.heap.size w0 (w.alloc o) := h.alloc h.size o
theorem bd {w0 w : World} (h : Below w0.heap.size w0 w) (n : Nat) : Below w0.heap.size w0 (w.drewN n) := ⟨h.os, h.tape, h.output, h.size, h.block⟩

namespace fnExprPrecedenceAgreesAndOrders
set_option maxRecDepth 100000 in
theorem walk (k : Int) (w : World) (hk : (Lit.int .i64 k).wf = true) (hL : laidMetH Tryd.prog Rows.fnExprPrecedenceAgreesAndOrdersRow.laid w) :
    Calls Tryd.prog 4 #[.int .i64 k] w fun e w' => e = .returned (.bool true) ∧ Below w.heap.size w w' := by
  obtain ⟨bm, h⟩ := of_prec hL
  clear hL
  have H := Lib.hid h
  have HK := Lib.hid hk
  clear h hk
  have q0 : precOf 11 = 8 := rfl
  go_enter Tryd.func4, Tryd.ntmps4
  go_wp2_with fail
  refine (bopPrec k HK.out bm _ w H.out (Below.refl _ _)).mono ?_
  rintro e w' ⟨rfl, rfl⟩
  go_wp2_with fail
  refine (expr_bin w.heap.size k HK.out bm _ w H.out (bl (Below.refl _ _) _) (by go_simp)).mono ?_
  rintro e w' ⟨rfl, n1, hw1⟩
  have b1 : Below w.heap.size w w' := by rw [hw1]; exact bd (bl (Below.refl _ _) _) _
  clear hw1
  go_wp2_with fail
  refine (expr_insuper _ bm _ w H.out (bl b1 _)).mono ?_
  rintro e w2 ⟨rfl, rfl⟩
  go_wp2_with fail
  refine (bopPrec 11 (by decide) bm _ w H.out (bl b1 _)).mono ?_
  rintro e w2 ⟨rfl, rfl⟩
  rw [q0]
  go_wp2_with fail
  refine (expr_var _ _).mono ?_
  rintro e w2 ⟨rfl, rfl⟩
  go_wp2_with fail
  refine (expr_index _ _).mono ?_
  rintro e w2 ⟨rfl, rfl⟩
  go_wp2_with fail
  refine (expr_unary _ _).mono ?_
  rintro e w2 ⟨rfl, rfl⟩
  go_wp2_with fail
  refine (expr_cond _ _).mono ?_
  rintro e w2 ⟨rfl, rfl⟩
  by_cases hin : k < 0 ∨ 18 < k
  · have HI := Lib.hid hin
    clear hin
    go_wp2_with fail
    refine (named_no k HI.out _).mono ?_
    rintro e w2 ⟨rfl, rfl⟩
    go_wp2
    go_ret
    exact ⟨rfl, bl (bl (bl (bl (bl b1 _) _) _) _) _⟩
  · obtain ⟨n, rfl⟩ := Int.eq_ofNat_of_zero_le (show 0 ≤ k by omega)
    have hn : n < 19 := by omega
    obtain ⟨h4, h16⟩ := prec_in n hn
    clear hin
    go_wp2_with fail
    refine (named_yes n hn _).mono ?_
    rintro e w2 ⟨rfl, rfl⟩
    go_wp2
    go_ret
    exact ⟨rfl, bl (bl (bl (bl (bl b1 _) _) _) _) _⟩
end fnExprPrecedenceAgreesAndOrders
end Go.Proofs.YtjbjdoahpeghpabDoor
