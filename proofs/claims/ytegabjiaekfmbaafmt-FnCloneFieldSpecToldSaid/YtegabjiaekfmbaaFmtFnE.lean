/-
  The laws' shims on an object field and on a Function (n008_19).
-/
import Derived.Test.YtegabjiaekfmbaaFmtFnD
namespace Go.Proofs.YtegabjiaekfmbaaFmt
open Go Go.RowKit

theorem setE1 (fb lb : Nat) (u : Value) (w : World) (hc : w.cell? ⟨fb, 6, none⟩ = some u) (hf : w.frozen? ⟨fb, 6, none⟩ = false) :
    Calls Tryf.prog 21 #[.pointer (some ⟨fb, 0, none⟩), .pointer (some ⟨lb, 0, none⟩)] w fun e w' => e = .returned (.tuple #[]) ∧ w.setCell ⟨fb, 6, none⟩ (.iface 72 (.pointer (some ⟨lb, 0, none⟩))) = w' := by
  go_enter Tryf.func21, Tryf.ntmps21
  go_wp2
  go_end0
  exact ⟨rfl, rfl⟩
theorem setE2 (fb lb : Nat) (u : Value) (w : World) (hc : w.cell? ⟨fb, 7, none⟩ = some u) (hf : w.frozen? ⟨fb, 7, none⟩ = false) :
    Calls Tryf.prog 22 #[.pointer (some ⟨fb, 0, none⟩), .pointer (some ⟨lb, 0, none⟩)] w fun e w' => e = .returned (.tuple #[]) ∧ w.setCell ⟨fb, 7, none⟩ (.iface 57 (.pointer (some ⟨lb, 0, none⟩))) = w' := by
  go_enter Tryf.func22, Tryf.ntmps22
  go_wp2
  go_end0
  exact ⟨rfl, rfl⟩
theorem setE3 (fb lb : Nat) (u : Value) (w : World) (hc : w.cell? ⟨fb, 8, none⟩ = some u) (hf : w.frozen? ⟨fb, 8, none⟩ = false) :
    Calls Tryf.prog 23 #[.pointer (some ⟨fb, 0, none⟩), .pointer (some ⟨lb, 0, none⟩)] w fun e w' => e = .returned (.tuple #[]) ∧ w.setCell ⟨fb, 8, none⟩ (.iface 57 (.pointer (some ⟨lb, 0, none⟩))) = w' := by
  go_enter Tryf.func23, Tryf.ntmps23
  go_wp2
  go_end0
  exact ⟨rfl, rfl⟩
theorem setFB (fb lb : Nat) (u : Value) (w : World) (hc : w.cell? ⟨fb, 2, none⟩ = some u) (hf : w.frozen? ⟨fb, 2, none⟩ = false) :
    Calls Tryf.prog 24 #[.pointer (some ⟨fb, 0, none⟩), .pointer (some ⟨lb, 0, none⟩)] w fun e w' => e = .returned (.tuple #[]) ∧ w.setCell ⟨fb, 2, none⟩ (.iface 57 (.pointer (some ⟨lb, 0, none⟩))) = w' := by
  go_enter Tryf.func24, Tryf.ntmps24
  go_wp2
  go_end0
  exact ⟨rfl, rfl⟩
theorem getE1 (fb lb : Nat) (w : World) (hc : w.cell? ⟨fb, 6, none⟩ = some (.iface 72 (.pointer (some ⟨lb, 0, none⟩)))) :
    Calls Tryf.prog 26 #[.pointer (some ⟨fb, 0, none⟩)] w fun e w' => e = .returned (.pointer (some ⟨lb, 0, none⟩)) ∧ w = w' := by
  go_enter Tryf.func26, Tryf.ntmps26
  go_wp2
  go_ret
  exact ⟨rfl, rfl⟩
theorem getE2 (fb lb : Nat) (w : World) (hc : w.cell? ⟨fb, 7, none⟩ = some (.iface 57 (.pointer (some ⟨lb, 0, none⟩)))) :
    Calls Tryf.prog 28 #[.pointer (some ⟨fb, 0, none⟩)] w fun e w' => e = .returned (.pointer (some ⟨lb, 0, none⟩)) ∧ w = w' := by
  go_enter Tryf.func28, Tryf.ntmps28
  go_wp2
  go_ret
  exact ⟨rfl, rfl⟩
theorem getE3 (fb lb : Nat) (w : World) (hc : w.cell? ⟨fb, 8, none⟩ = some (.iface 57 (.pointer (some ⟨lb, 0, none⟩)))) :
    Calls Tryf.prog 30 #[.pointer (some ⟨fb, 0, none⟩)] w fun e w' => e = .returned (.pointer (some ⟨lb, 0, none⟩)) ∧ w = w' := by
  go_enter Tryf.func30, Tryf.ntmps30
  go_wp2
  go_ret
  exact ⟨rfl, rfl⟩
theorem getFB (fb lb : Nat) (w : World) (hc : w.cell? ⟨fb, 2, none⟩ = some (.iface 57 (.pointer (some ⟨lb, 0, none⟩)))) :
    Calls Tryf.prog 32 #[.pointer (some ⟨fb, 0, none⟩)] w fun e w' => e = .returned (.pointer (some ⟨lb, 0, none⟩)) ∧ w = w' := by
  go_enter Tryf.func32, Tryf.ntmps32
  go_wp2
  go_ret
  exact ⟨rfl, rfl⟩
theorem nilE1 (fb : Nat) (w : World) (hc : w.cell? ⟨fb, 6, none⟩ = some .nilIface) :
    Calls Tryf.prog 27 #[.pointer (some ⟨fb, 0, none⟩)] w fun e w' => e = .returned (.bool true) ∧ w = w' := by
  go_enter Tryf.func27, Tryf.ntmps27
  go_wp2
  go_ret
  exact ⟨rfl, rfl⟩
theorem nilE2 (fb : Nat) (w : World) (hc : w.cell? ⟨fb, 7, none⟩ = some .nilIface) :
    Calls Tryf.prog 29 #[.pointer (some ⟨fb, 0, none⟩)] w fun e w' => e = .returned (.bool true) ∧ w = w' := by
  go_enter Tryf.func29, Tryf.ntmps29
  go_wp2
  go_ret
  exact ⟨rfl, rfl⟩
theorem nilE3 (fb : Nat) (w : World) (hc : w.cell? ⟨fb, 8, none⟩ = some .nilIface) :
    Calls Tryf.prog 31 #[.pointer (some ⟨fb, 0, none⟩)] w fun e w' => e = .returned (.bool true) ∧ w = w' := by
  go_enter Tryf.func31, Tryf.ntmps31
  go_wp2
  go_ret
  exact ⟨rfl, rfl⟩
theorem nilFB (fb : Nat) (w : World) (hc : w.cell? ⟨fb, 2, none⟩ = some .nilIface) :
    Calls Tryf.prog 33 #[.pointer (some ⟨fb, 0, none⟩)] w fun e w' => e = .returned (.bool true) ∧ w = w' := by
  go_enter Tryf.func33, Tryf.ntmps33
  go_wp2
  go_ret
  exact ⟨rfl, rfl⟩

end Go.Proofs.YtegabjiaekfmbaaFmt
