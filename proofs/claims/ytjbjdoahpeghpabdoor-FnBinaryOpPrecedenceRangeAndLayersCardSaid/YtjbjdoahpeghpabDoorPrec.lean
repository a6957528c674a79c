/-
  The table bopPrecedence, read off what the row lists: a look-up at any int key hands back the listed number, or 0; BinaryOpPrecedence; zzIsNamedBop.
-/
import Derived.Test.YtjbjdoahpeghpabDoorRows
import Derived.WalkKit
import Derived.WalkSpells
import Derived.ProofKit
import Derived.LaidMore
import Derived.MakeChecks
import Derived.Maps.Keyed
import Derived.Lib.Hide
import Derived.Deep.QuietTactic
import Derived.BigQuiet
namespace Go.Proofs.YtjbjdoahpeghpabDoor
open Go Go.RowKit Go.ChangeShapes Go.WideShapes Go.WideElems

def precTab : List Int := [5, 5, 5, 6, 6, 7, 7, 8, 8, 8, 8, 8, 9, 9, 10, 11, 12, 13, 14]
def precOf (k : Int) : Int := if 0 ≤ k ∧ k ≤ 18 then precTab.getD k.toNat 0 else 0

theorem gPrec : Tryd.prog.globalNamed "github.com/google/go-jsonnet/internal/ast.bopPrecedence" = some 0 := by kernel_rfl
theorem tPrec : (Tryd.prog.globals[0]?).map (·.type) = some 64 := by kernel_rfl

/-- What the row's list gives: the variable holds a map; in every world that holds that block, a look-up at key k gives precOf k. -/
def PrecIn (w : World) (bm : Nat) : Prop := bm < w.heap.size ∧ w.cell? ⟨0, 0, none⟩ = some (.map (some bm)) ∧ 0 < w.heap.size ∧
  ∀ w' : World, w'.heap[bm]? = w.heap[bm]? → ∀ k : Int, (Lit.int .i64 k).wf = true → (Instr.lookup 64 (.map (some bm)) (.int .i64 k) false).run Tryd.prog w' = .ok (.int .i64 (precOf k)) w'

theorem at_prec (k : Int) : (Rows.laid_github_com_google_go_jsonnet_internal_ast_bopPrecedence : DataW Unit).atKey (.int .i64 k) .nil = if 0 ≤ k ∧ k ≤ 18 then .lit (.int .i64 (precOf k)) else .nil := by
  by_cases h : 0 ≤ k ∧ k ≤ 18
  · rw [if_pos h]
    obtain ⟨n, rfl⟩ := Int.eq_ofNat_of_zero_le h.1
    have hn : n < 19 := by omega
    match n, hn with
    | 0, _ => rfl
    | 1, _ => rfl
    | 2, _ => rfl
    | 3, _ => rfl
    | 4, _ => rfl
    | 5, _ => rfl
    | 6, _ => rfl
    | 7, _ => rfl
    | 8, _ => rfl
    | 9, _ => rfl
    | 10, _ => rfl
    | 11, _ => rfl
    | 12, _ => rfl
    | 13, _ => rfl
    | 14, _ => rfl
    | 15, _ => rfl
    | 16, _ => rfl
    | 17, _ => rfl
    | 18, _ => rfl
    | n + 19, h => exact absurd h (by omega)
  · rw [if_neg h]
    have e : ∀ j : Int, 0 ≤ j → j ≤ 18 → (Lit.int .i64 j).sameKey (Lit.int .i64 k) = false := by
      intro j h0 h1
      simp [Lit.sameKey]
      omega
    unfold Rows.laid_github_com_google_go_jsonnet_internal_ast_bopPrecedence DataW.atKey
    simp only [List.find?_cons, e 0 (by decide) (by decide), e 1 (by decide) (by decide), e 2 (by decide) (by decide), e 3 (by decide) (by decide), e 4 (by decide) (by decide), e 5 (by decide) (by decide), e 6 (by decide) (by decide), e 7 (by decide) (by decide), e 8 (by decide) (by decide), e 9 (by decide) (by decide), e 10 (by decide) (by decide), e 11 (by decide) (by decide), e 12 (by decide) (by decide), e 13 (by decide) (by decide), e 14 (by decide) (by decide), e 15 (by decide) (by decide), e 16 (by decide) (by decide), e 17 (by decide) (by decide), e 18 (by decide) (by decide), List.find?_nil]

theorem of_prec {W : World} (h : laidMetH Tryd.prog Rows.fnBinaryOpPrecedenceRangeAndLayersRow.laid W) : ∃ bm, PrecIn W bm := by
  rw [MakeChecks.laidMetH_plain _ _ _ (by kernel_rfl)] at h
  obtain ⟨ps, ⟨g0, t0, cs0, f0, p0, q0, hg0, ht0, hv0, hd0, _, _⟩, _, _⟩ := h
  obtain rfl := Option.some.inj (gPrec.symm.trans hg0)
  obtain rfl := Option.some.inj (tPrec.symm.trans ht0)
  rcases open_map Tryd.underlying64 hd0 with ⟨_, hx⟩ | ⟨bm, es, clock, m, rfl, hcs, hb, _, F, hx⟩
  · simp [Rows.laid_github_com_google_go_jsonnet_internal_ast_bopPrecedence] at hx
  simp only [Prod.mk.injEq] at hx
  have hcell : W.cell? ⟨0, 0, none⟩ = some (.map (some bm)) := by
    have := World.var?_cell hg0 hv0 0
    rw [Array.eq_one_of_toList hcs] at this
    simpa using this
  have hlt : ∀ {b : Nat} {o : Obj}, W.heap[b]? = some o → b < W.heap.size := fun {b o} h => (Array.getElem?_eq_some_iff.1 h).1
  have hglt : 0 < W.heap.size := by
    rcases Nat.lt_or_ge 0 W.heap.size with h | h
    · exact h
    · simp [World.cell?, Array.getElem?_eq_none h] at hcell
  refine ⟨bm, hlt hb, hcell, hglt, fun w' hw' k hk => ?_⟩
  have zero : (zeroValue 23).run Tryd.prog w' = .ok (.int .i64 0) w' := by kernel_rfl
  have hat := at_prec k
  rcases Maps.fit_look (w := w') false (Maps.int_keyed (P := Tryd.prog) (k := 22) Tryd.underlying22) Tryd.underlying64 zero (hw'.trans hb) F (Maps.keyOf_int_mk Tryd.underlying22 hk) with ⟨hrun, _, hno⟩ | ⟨e0, y, _, _, hrun, hR, hyes, _⟩
  · rw [hrun]
    have h1 := hno (.lit (.bool true))
    have h2 := hno .nil
    rw [← hx.1, hat] at h2
    split at h2
    · cases h2
    · rename_i hn
      have e0 : precOf k = 0 := by unfold precOf; exact if_neg hn
      rw [e0]; rfl
  · obtain ⟨r, e1, e2, _⟩ := elemAt_int Tryd.underlying23 hR
    have h2 := hyes .nil
    rw [← hx.1, hat, e2] at h2
    split at h2
    · simp only [DataW.lit.injEq, Lit.int.injEq, true_and] at h2
      rw [hrun, e1, ← h2]; rfl
    · cases h2

/-- BinaryOpPrecedence at any key. -/
theorem bopPrec (k : Int) (hk : (Lit.int .i64 k).wf = true) (bm : Nat) (w w0 : World) (h : PrecIn w0 bm) (hw : Below w0.heap.size w0 w) :
    Calls Tryd.prog 5 #[.int .i64 k] w fun e w' => e = .returned (.int .i64 (precOf k)) ∧ w = w' := by
  obtain ⟨hb, hc, hg, hl⟩ := h
  have hc' : w.cell? ⟨0, 0, none⟩ = some (.map (some bm)) := by rw [hw.cell (p := ⟨_, 0, none⟩) hg]; exact hc
  have hrun := hl w (hw.block bm hb) k hk
  clear hl hc hw
  go_enter Tryd.func5, Tryd.ntmps5
  go_wp2
  go_ret
  exact ⟨rfl, rfl⟩

/-- zzIsNamedBop. -/
theorem named_yes (k : Nat) (hk : k < 19) (w : World) : Calls Tryd.prog 6 #[.int .i64 k] w fun e w' => e = .returned (.bool true) ∧ w = w' := by
  match k, hk with
  | 0, _ =>
    go_enter Tryd.func6, Tryd.ntmps6
    go_wp2
    go_ret
    exact ⟨rfl, rfl⟩
  | 1, _ =>
    go_enter Tryd.func6, Tryd.ntmps6
    go_wp2
    go_ret
    exact ⟨rfl, rfl⟩
  | 2, _ =>
    go_enter Tryd.func6, Tryd.ntmps6
    go_wp2
    go_ret
    exact ⟨rfl, rfl⟩
  | 3, _ =>
    go_enter Tryd.func6, Tryd.ntmps6
    go_wp2
    go_ret
    exact ⟨rfl, rfl⟩
  | 4, _ =>
    go_enter Tryd.func6, Tryd.ntmps6
    go_wp2
    go_ret
    exact ⟨rfl, rfl⟩
  | 5, _ =>
    go_enter Tryd.func6, Tryd.ntmps6
    go_wp2
    go_ret
    exact ⟨rfl, rfl⟩
  | 6, _ =>
    go_enter Tryd.func6, Tryd.ntmps6
    go_wp2
    go_ret
    exact ⟨rfl, rfl⟩
  | 7, _ =>
    go_enter Tryd.func6, Tryd.ntmps6
    go_wp2
    go_ret
    exact ⟨rfl, rfl⟩
  | 8, _ =>
    go_enter Tryd.func6, Tryd.ntmps6
    go_wp2
    go_ret
    exact ⟨rfl, rfl⟩
  | 9, _ =>
    go_enter Tryd.func6, Tryd.ntmps6
    go_wp2
    go_ret
    exact ⟨rfl, rfl⟩
  | 10, _ =>
    go_enter Tryd.func6, Tryd.ntmps6
    go_wp2
    go_ret
    exact ⟨rfl, rfl⟩
  | 11, _ =>
    go_enter Tryd.func6, Tryd.ntmps6
    go_wp2
    go_ret
    exact ⟨rfl, rfl⟩
  | 12, _ =>
    go_enter Tryd.func6, Tryd.ntmps6
    go_wp2
    go_ret
    exact ⟨rfl, rfl⟩
  | 13, _ =>
    go_enter Tryd.func6, Tryd.ntmps6
    go_wp2
    go_ret
    exact ⟨rfl, rfl⟩
  | 14, _ =>
    go_enter Tryd.func6, Tryd.ntmps6
    go_wp2
    go_ret
    exact ⟨rfl, rfl⟩
  | 15, _ =>
    go_enter Tryd.func6, Tryd.ntmps6
    go_wp2
    go_ret
    exact ⟨rfl, rfl⟩
  | 16, _ =>
    go_enter Tryd.func6, Tryd.ntmps6
    go_wp2
    go_ret
    exact ⟨rfl, rfl⟩
  | 17, _ =>
    go_enter Tryd.func6, Tryd.ntmps6
    go_wp2
    go_ret
    exact ⟨rfl, rfl⟩
  | 18, _ =>
    go_enter Tryd.func6, Tryd.ntmps6
    go_wp2
    go_ret
    exact ⟨rfl, rfl⟩
  | n + 19, h => exact absurd h (by omega)

theorem named_no (k : Int) (hk : k < 0 ∨ 18 < k) (w : World) : Calls Tryd.prog 6 #[.int .i64 k] w fun e w' => e = .returned (.bool false) ∧ w = w' := by
  have h0 : (k == 0) = false := beq_eq_false_iff_ne.2 (by omega)
  have h1 : (k == 1) = false := beq_eq_false_iff_ne.2 (by omega)
  have h2 : (k == 2) = false := beq_eq_false_iff_ne.2 (by omega)
  have h3 : (k == 3) = false := beq_eq_false_iff_ne.2 (by omega)
  have h4 : (k == 4) = false := beq_eq_false_iff_ne.2 (by omega)
  have h5 : (k == 5) = false := beq_eq_false_iff_ne.2 (by omega)
  have h6 : (k == 6) = false := beq_eq_false_iff_ne.2 (by omega)
  have h7 : (k == 7) = false := beq_eq_false_iff_ne.2 (by omega)
  have h8 : (k == 8) = false := beq_eq_false_iff_ne.2 (by omega)
  have h9 : (k == 9) = false := beq_eq_false_iff_ne.2 (by omega)
  have h10 : (k == 10) = false := beq_eq_false_iff_ne.2 (by omega)
  have h11 : (k == 11) = false := beq_eq_false_iff_ne.2 (by omega)
  have h12 : (k == 12) = false := beq_eq_false_iff_ne.2 (by omega)
  have h13 : (k == 13) = false := beq_eq_false_iff_ne.2 (by omega)
  have h14 : (k == 14) = false := beq_eq_false_iff_ne.2 (by omega)
  have h15 : (k == 15) = false := beq_eq_false_iff_ne.2 (by omega)
  have h16 : (k == 16) = false := beq_eq_false_iff_ne.2 (by omega)
  have h17 : (k == 17) = false := beq_eq_false_iff_ne.2 (by omega)
  have h18 : (k == 18) = false := beq_eq_false_iff_ne.2 (by omega)
  clear hk
  go_enter Tryd.func6, Tryd.ntmps6
  go_wp2
  go_ret
  exact ⟨rfl, rfl⟩

end Go.Proofs.YtjbjdoahpeghpabDoor
