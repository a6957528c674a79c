/-
  fmt.Sprintf's plain stop, where no order is drawn: of one string, and of none: some text; a draw.
-/
import Derived.Test.YthohpccmleodpaaFmtProg
import Derived.Stop.CallBack
import Derived.Stop.IfaceNil
import Derived.WalkKit
import Derived.WalkSpells
import GoSem.ClaimData
import Derived.Deep.RegionLaw
import Derived.Lib.Hide
namespace Go.Proofs.YthohpccmleodpaaFmt.FmtP
open Go Go.RowKit Go.Extern.Stop Go.Stop Go.Extern

theorem callS (args : Array Value) (w : World) : (callFunc 26 args).run Tryf.prog w = ((FmtStop.sprintf #[9, 151] #[9] args).run Tryf.prog w).andThen fun v w' => .ok (.value v) w' :=
  run_callFunc_extern Tryf.func26 (by kernel_rfl) (by kernel_rfl) (by kernel_rfl) (by kernel_rfl) args w
theorem guard (name : String) (w : World) : (FmtStop.guard name).run Tryf.prog w = .ok () w := by kernel_rfl
def shape9 : List UInt8 := [12, 6, 0, 0, 0, 0, 0, 0, 0, 115, 116, 114, 105, 110, 103]
theorem op9_118 (name : String) (x : ByteArray) (w : World) : (FmtStop.operand name false 118 false (.iface 9 (.string x))).run Tryf.prog w = .ok (shape9, FmtStop.pack x.data.toList) w := by kernel_rfl

section
attribute [local go_sem] callS guard op9_118
set_option maxHeartbeats 1600000 in
set_option maxRecDepth 100000 in
theorem wp_sprintf1 {o : Oper} {a : Act} {w : World} {K : Act → World → Prop} {Q : Exit → Act → World → Prop} (x y : Operand) (ho : o.op = .call { callee := .value (.func 26), args := #[x, y], argTypes := #[9, 151] })
    (fm : ByteArray) (b : Nat) (s : ByteArray) (hx : a.eval x = .string fm) (hy : a.eval y = .slice (some ⟨b, 0, none⟩) 1 1) (h1 : FmtStop.printed? fm 1 = some [(0, 118, false)])
    (hc : w.cell? ⟨b, 0, none⟩ = some (.iface 9 (.string s))) (F : Interp) (hF : F.answers w.tape) (h : ∀ t, K (a.put o.dst (.string t)) w.drew) : o.wp Tryf.prog a w K Q := by
  have hF' := answers_open hF
  have H := Lib.hid h
  clear h hF
  unfold Oper.wp execOp
  simp only [ho, resolve, invoke, Sem.run_bind, List.map_toArray, List.map_cons, List.map_nil, hx, hy]
  go_simp
  exact H.out _
set_option maxHeartbeats 1600000 in
set_option maxRecDepth 100000 in
theorem wp_sprintf0 {o : Oper} {a : Act} {w : World} {K : Act → World → Prop} {Q : Exit → Act → World → Prop} (x y : Operand) (ho : o.op = .call { callee := .value (.func 26), args := #[x, y], argTypes := #[9, 151] })
    (fm : ByteArray) (hx : a.eval x = .string fm) (hy : a.eval y = .slice none 0 0) (h1 : FmtStop.printed? fm 0 = some [])
    (F : Interp) (hF : F.answers w.tape) (h : ∀ t, K (a.put o.dst (.string t)) w.drew) : o.wp Tryf.prog a w K Q := by
  have hF' := answers_open hF
  have H := Lib.hid h
  clear h hF
  unfold Oper.wp execOp
  simp only [ho, resolve, invoke, Sem.run_bind, List.map_toArray, List.map_cons, List.map_nil, hx, hy]
  go_simp
  exact H.out _
end

theorem wpList_sprintf1 {ops : Array Oper} {rest : List Oper} {o : Oper} {a : Act} {w : World} {Q : Exit → Act → World → Prop} (hgd : o.guard = none) (x y : Operand) (ho : o.op = .call { callee := .value (.func 26), args := #[x, y], argTypes := #[9, 151] })
    (fm : ByteArray) (b : Nat) (s : ByteArray) (hx : a.eval x = .string fm) (hy : a.eval y = .slice (some ⟨b, 0, none⟩) 1 1) (h1 : FmtStop.printed? fm 1 = some [(0, 118, false)])
    (hc : w.cell? ⟨b, 0, none⟩ = some (.iface 9 (.string s))) (F : Interp) (hF : F.answers w.tape) (h : ∀ t, wpList Tryf.prog ops Q rest (a.put o.dst (.string t)) w.drew) : wpList Tryf.prog ops Q (o :: rest) a w := by
  refine wpList_plain hgd fun K hK => ?_
  exact wp_sprintf1 x y ho fm b s hx hy h1 hc F hF fun t => hK _ _ (h t)
theorem wpList_sprintf0 {ops : Array Oper} {rest : List Oper} {o : Oper} {a : Act} {w : World} {Q : Exit → Act → World → Prop} (hgd : o.guard = none) (x y : Operand) (ho : o.op = .call { callee := .value (.func 26), args := #[x, y], argTypes := #[9, 151] })
    (fm : ByteArray) (hx : a.eval x = .string fm) (hy : a.eval y = .slice none 0 0) (h1 : FmtStop.printed? fm 0 = some [])
    (F : Interp) (hF : F.answers w.tape) (h : ∀ t, wpList Tryf.prog ops Q rest (a.put o.dst (.string t)) w.drew) : wpList Tryf.prog ops Q (o :: rest) a w := by
  refine wpList_plain hgd fun K hK => ?_
  exact wp_sprintf0 x y ho fm hx hy h1 F hF fun t => hK _ _ (h t)

end Go.Proofs.YthohpccmleodpaaFmt.FmtP
