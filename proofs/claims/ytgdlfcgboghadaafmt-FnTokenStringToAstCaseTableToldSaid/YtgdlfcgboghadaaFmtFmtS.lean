/-
  fmt.Sprintf's stop in this program: the closed facts of its walk.
-/
import Derived.Test.YtgdlfcgboghadaaFmtProg
import Derived.Stop.CallBack
import Derived.Stop.IfaceNil
import Derived.WalkKit
import Derived.WalkSpells
import GoSem.ClaimData
import Derived.Deep.RegionLaw
import Derived.Lib.Hide
namespace Go.Proofs.YtgdlfcgboghadaaFmt.FmtS
open Go Go.RowKit Go.Extern.Stop Go.Stop Go.Extern

theorem callS (args : Array Value) (w : World) : (callFunc 25 args).run Tryf.prog w = (FmtCalls.sprintf #[9, 167] #[9] args).run Tryf.prog w :=
  run_callFunc_next Tryf.func25 (by kernel_rfl) (by kernel_rfl) (by kernel_rfl) args w
theorem guard (name : String) (w : World) : (FmtStop.guard name).run Tryf.prog w = .ok () w := by kernel_rfl
theorem nextTurns : Extern.next FmtCalls.turnsRow = some (FmtCalls.begun #[] #[]) := by kernel_rfl
theorem nextReturned : Extern.next FmtCalls.returnedRow = some (FmtCalls.returned #[] #[]) := by kernel_rfl
def shape9 : List UInt8 := [12, 6, 0, 0, 0, 0, 0, 0, 0, 115, 116, 114, 105, 110, 103]
theorem act9_118 (name : String) (x : Value) (w : World) : (FmtCalls.act name false 118 false (.iface 9 x)).run Tryf.prog w = .ok (.closed false) w := by kernel_rfl
theorem op9_118 (name : String) (x : ByteArray) (w : World) : (FmtStop.operand name false 118 false (.iface 9 (.string x))).run Tryf.prog w = .ok (shape9, FmtStop.pack x.data.toList) w := by kernel_rfl
theorem act9_115 (name : String) (x : Value) (w : World) : (FmtCalls.act name false 115 false (.iface 9 x)).run Tryf.prog w = .ok (.closed false) w := by kernel_rfl
theorem op9_115 (name : String) (x : ByteArray) (w : World) : (FmtStop.operand name false 115 false (.iface 9 (.string x))).run Tryf.prog w = .ok (shape9, FmtStop.pack x.data.toList) w := by kernel_rfl


section
attribute [local go_sem] callS guard act9_118 op9_118 act9_115 op9_115
set_option maxHeartbeats 1600000 in
set_option maxRecDepth 100000 in
/-- Sprintf of one string: some text; a draw. -/
theorem wp_sprintf1 {o : Oper} {a : Act} {w : World} {K : Act → World → Prop} {Q : Exit → Act → World → Prop} (x y : Operand) (ho : o.op = .call { callee := .value (.func 25), args := #[x, y], argTypes := #[9, 167] })
    (fm : ByteArray) (b : Nat) (s : ByteArray) (hx : a.eval x = .string fm) (hy : a.eval y = .slice (some ⟨b, 0, none⟩) 1 1) (h1 : FmtStop.printed? fm 1 = some [(0, 118, false)]) (_h2 : ∀ w, (FmtDoors.printed fm 1).run Tryf.prog w = .ok [(0, 118, false)] w)
    (hc : w.cell? ⟨b, 0, none⟩ = some (.iface 9 (.string s))) (F : Interp) (hF : F.answers w.tape) (h : ∀ t, K (a.put o.dst (.string t)) w.drew) : o.wp Tryf.prog a w K Q := by
  have hF' := answers_open hF
  have H := Lib.hid h
  clear h hF
  unfold Oper.wp execOp
  simp only [ho, resolve, invoke, Sem.run_bind, List.map_toArray, List.map_cons, List.map_nil, hx, hy]
  go_simp
  apply rows_value nextTurns
  case hr =>
    go_simp
    exact ⟨rfl, rfl⟩
  case h => exact H.out _
theorem step_sprintf1 {ops : Array Oper} {o : Oper} {a : Act} {w : World} {K : Act → World → Prop} {Q : Exit → Act → World → Prop} {E : Prop} (hgd : o.guard = none) (x y : Operand) (ho : o.op = .call { callee := .value (.func 25), args := #[x, y], argTypes := #[9, 167] })
    (fm : ByteArray) (b : Nat) (s : ByteArray) (hx : a.eval x = .string fm) (hy : a.eval y = .slice (some ⟨b, 0, none⟩) 1 1) (h1 : FmtStop.printed? fm 1 = some [(0, 118, false)]) (h2 : ∀ w, (FmtDoors.printed fm 1).run Tryf.prog w = .ok [(0, 118, false)] w)
    (hc : w.cell? ⟨b, 0, none⟩ = some (.iface 9 (.string s))) (F : Interp) (hF : F.answers w.tape) (h : ∀ t, K (a.put o.dst (.string t)) w.drew) : if Region.wanted o (yielded ops a.tmps) = true then Oper.wp Tryf.prog o a w K Q else E := by
  have hw : Region.wanted o (yielded ops a.tmps) = true := by simp [Region.wanted, hgd]
  rw [if_pos hw]
  exact wp_sprintf1 x y ho fm b s hx hy h1 h2 hc F hF h
end

end Go.Proofs.YtgdlfcgboghadaaFmt.FmtS
