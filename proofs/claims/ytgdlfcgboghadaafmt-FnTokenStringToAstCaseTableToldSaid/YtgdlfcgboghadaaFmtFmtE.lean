/-
  fmt.Sprintf's stop (the one that calls), more of it: one string under '%s', one rune under '%c', two strings under '%v'.
-/
import Derived.Test.YtgdlfcgboghadaaFmtFmtS
namespace Go.Proofs.YtgdlfcgboghadaaFmt.FmtS
open Go Go.RowKit Go.Extern.Stop Go.Stop Go.Extern

theorem act21_99 (name : String) (x : Value) (w : World) : (FmtCalls.act name false 99 false (.iface 21 x)).run Tryf.prog w = .ok (.closed false) w := by kernel_rfl
def shape21 : List UInt8 := [4, 5, 0, 0, 0, 0, 0, 0, 0, 105, 110, 116, 51, 50]
theorem op21_99 (name : String) (x : Int) (w : World) : (FmtStop.operand name false 99 false (.iface 21 (.int .i32 x))).run Tryf.prog w = .ok (shape21, Go.Extern.Stop.digits 8 (x % 2 ^ 64).toNat) w := by kernel_rfl

section
attribute [local go_sem] callS guard act9_118 op9_118 act9_115 op9_115 act21_99 op21_99
set_option maxHeartbeats 1600000 in
set_option maxRecDepth 100000 in
theorem wp_sprintfS {o : Oper} {a : Act} {w : World} {K : Act → World → Prop} {Q : Exit → Act → World → Prop} (x y : Operand) (ho : o.op = .call { callee := .value (.func 25), args := #[x, y], argTypes := #[9, 167] })
    (fm : ByteArray) (b : Nat) (s : ByteArray) (hx : a.eval x = .string fm) (hy : a.eval y = .slice (some ⟨b, 0, none⟩) 1 1) (h1 : FmtStop.printed? fm 1 = some [(0, 115, false)]) (_h2 : ∀ w, (FmtDoors.printed fm 1).run Tryf.prog w = .ok [(0, 115, false)] w)
    (hc : w.cell? ⟨b, 0, none⟩ = some (.iface 9 (.string s))) (F : Interp) (hF : F.answers w.tape) (h : ∀ t, K (a.put o.dst (.string t)) w.drew) : o.wp Tryf.prog a w K Q := by
  have hF' := answers_open hF
  have H := Lib.hid h
  clear h hF
  unfold Oper.wp execOp
  simp only [ho, resolve, invoke, Sem.run_bind, List.map_toArray, List.map_cons, List.map_nil, hx, hy]
  go_simp
  apply rows_value nextTurns
  case hr =>
    go_simp
    exact ⟨rfl, rfl⟩
  case h => exact H.out _
set_option maxHeartbeats 1600000 in
set_option maxRecDepth 100000 in
theorem wp_sprintfC {o : Oper} {a : Act} {w : World} {K : Act → World → Prop} {Q : Exit → Act → World → Prop} (x y : Operand) (ho : o.op = .call { callee := .value (.func 25), args := #[x, y], argTypes := #[9, 167] })
    (fm : ByteArray) (b : Nat) (z : Int) (hx : a.eval x = .string fm) (hy : a.eval y = .slice (some ⟨b, 0, none⟩) 1 1) (h1 : FmtStop.printed? fm 1 = some [(0, 99, false)]) (_h2 : ∀ w, (FmtDoors.printed fm 1).run Tryf.prog w = .ok [(0, 99, false)] w)
    (hc : w.cell? ⟨b, 0, none⟩ = some (.iface 21 (.int .i32 z))) (F : Interp) (hF : F.answers w.tape) (h : ∀ t, K (a.put o.dst (.string t)) w.drew) : o.wp Tryf.prog a w K Q := by
  have hF' := answers_open hF
  have H := Lib.hid h
  clear h hF
  unfold Oper.wp execOp
  simp only [ho, resolve, invoke, Sem.run_bind, List.map_toArray, List.map_cons, List.map_nil, hx, hy]
  go_simp
  apply rows_value nextTurns
  case hr =>
    go_simp
    exact ⟨rfl, rfl⟩
  case h => exact H.out _
set_option maxHeartbeats 1600000 in
set_option maxRecDepth 100000 in
theorem wp_sprintf2 {o : Oper} {a : Act} {w : World} {K : Act → World → Prop} {Q : Exit → Act → World → Prop} (x y : Operand) (ho : o.op = .call { callee := .value (.func 25), args := #[x, y], argTypes := #[9, 167] })
    (fm : ByteArray) (b : Nat) (s t : ByteArray) (hx : a.eval x = .string fm) (hy : a.eval y = .slice (some ⟨b, 0, none⟩) 2 2) (h1 : FmtStop.printed? fm 2 = some [(0, 118, false), (1, 118, false)]) (_h2 : ∀ w, (FmtDoors.printed fm 2).run Tryf.prog w = .ok [(0, 118, false), (1, 118, false)] w)
    (hc : w.cell? ⟨b, 0, none⟩ = some (.iface 9 (.string s))) (hd : w.cell? ⟨b, 1, none⟩ = some (.iface 9 (.string t))) (F : Interp) (hF : F.answers w.tape) (h : ∀ t, K (a.put o.dst (.string t)) w.drew) : o.wp Tryf.prog a w K Q := by
  have hF' := answers_open hF
  have H := Lib.hid h
  clear h hF
  unfold Oper.wp execOp
  simp only [ho, resolve, invoke, Sem.run_bind, List.map_toArray, List.map_cons, List.map_nil, hx, hy]
  go_simp
  apply rows_value nextTurns
  case hr =>
    go_simp
    exact ⟨rfl, rfl⟩
  case h => exact H.out _
end

theorem step_sprintfS {ops : Array Oper} {o : Oper} {a : Act} {w : World} {K : Act → World → Prop} {Q : Exit → Act → World → Prop} {E : Prop} (hgd : o.guard = none) (x y : Operand) (ho : o.op = .call { callee := .value (.func 25), args := #[x, y], argTypes := #[9, 167] })
    (fm : ByteArray) (b : Nat) (s : ByteArray) (hx : a.eval x = .string fm) (hy : a.eval y = .slice (some ⟨b, 0, none⟩) 1 1) (h1 : FmtStop.printed? fm 1 = some [(0, 115, false)]) (h2 : ∀ w, (FmtDoors.printed fm 1).run Tryf.prog w = .ok [(0, 115, false)] w)
    (hc : w.cell? ⟨b, 0, none⟩ = some (.iface 9 (.string s))) (F : Interp) (hF : F.answers w.tape) (h : ∀ t, K (a.put o.dst (.string t)) w.drew) : if Region.wanted o (yielded ops a.tmps) = true then Oper.wp Tryf.prog o a w K Q else E := by
  have hw : Region.wanted o (yielded ops a.tmps) = true := by simp [Region.wanted, hgd]
  rw [if_pos hw]
  exact wp_sprintfS x y ho fm b s hx hy h1 h2 hc F hF h
theorem step_sprintfC {ops : Array Oper} {o : Oper} {a : Act} {w : World} {K : Act → World → Prop} {Q : Exit → Act → World → Prop} {E : Prop} (hgd : o.guard = none) (x y : Operand) (ho : o.op = .call { callee := .value (.func 25), args := #[x, y], argTypes := #[9, 167] })
    (fm : ByteArray) (b : Nat) (z : Int) (hx : a.eval x = .string fm) (hy : a.eval y = .slice (some ⟨b, 0, none⟩) 1 1) (h1 : FmtStop.printed? fm 1 = some [(0, 99, false)]) (h2 : ∀ w, (FmtDoors.printed fm 1).run Tryf.prog w = .ok [(0, 99, false)] w)
    (hc : w.cell? ⟨b, 0, none⟩ = some (.iface 21 (.int .i32 z))) (F : Interp) (hF : F.answers w.tape) (h : ∀ t, K (a.put o.dst (.string t)) w.drew) : if Region.wanted o (yielded ops a.tmps) = true then Oper.wp Tryf.prog o a w K Q else E := by
  have hw : Region.wanted o (yielded ops a.tmps) = true := by simp [Region.wanted, hgd]
  rw [if_pos hw]
  exact wp_sprintfC x y ho fm b z hx hy h1 h2 hc F hF h
theorem wpList_sprintf2 {ops : Array Oper} {rest : List Oper} {o : Oper} {a : Act} {w : World} {Q : Exit → Act → World → Prop} (hgd : o.guard = none) (x y : Operand) (ho : o.op = .call { callee := .value (.func 25), args := #[x, y], argTypes := #[9, 167] })
    (fm : ByteArray) (b : Nat) (s t : ByteArray) (hx : a.eval x = .string fm) (hy : a.eval y = .slice (some ⟨b, 0, none⟩) 2 2) (h1 : FmtStop.printed? fm 2 = some [(0, 118, false), (1, 118, false)]) (h2 : ∀ w, (FmtDoors.printed fm 2).run Tryf.prog w = .ok [(0, 118, false), (1, 118, false)] w)
    (hc : w.cell? ⟨b, 0, none⟩ = some (.iface 9 (.string s))) (hd : w.cell? ⟨b, 1, none⟩ = some (.iface 9 (.string t))) (F : Interp) (hF : F.answers w.tape) (h : ∀ t, wpList Tryf.prog ops Q rest (a.put o.dst (.string t)) w.drew) : wpList Tryf.prog ops Q (o :: rest) a w := by
  refine wpList_plain hgd fun K hK => ?_
  exact wp_sprintf2 x y ho fm b s t hx hy h1 h2 hc hd F hF fun t => hK _ _ (h t)

end Go.Proofs.YtgdlfcgboghadaaFmt.FmtS
