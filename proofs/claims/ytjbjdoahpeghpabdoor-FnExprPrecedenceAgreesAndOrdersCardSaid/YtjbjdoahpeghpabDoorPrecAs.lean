/-
  Type assertions of ExprPrecedence, at any dynamic type.
-/
import Derived.Test.YtjbjdoahpeghpabDoorRows
import Derived.WalkKit
namespace Go.Proofs.YtjbjdoahpeghpabDoor
open Go

@[go_sem] theorem as_30_65 (u : TypeId) (v : Value) (w : World) : (Instr.typeAssert (.iface u v) 30 65 true).run Tryd.prog w = .ok (if u = 65 then .tuple #[v, .bool true] else .tuple #[.pointer none, .bool false]) w := by
  have e : (Instr.typeAssert (.iface u v) 30 65 true).run Tryd.prog w = (if u = 65 then (pure (Value.tuple #[v, .bool true]) : Sem Value) else (do pure (Value.tuple #[← zeroValue 65, .bool false]))).run Tryd.prog w := by kernel_rfl
  rw [e]
  by_cases h : u = 65
  · rw [if_pos h, if_pos h]; rfl
  · rw [if_neg h, if_neg h]
    exact (show (do pure (Value.tuple #[← zeroValue 65, .bool false]) : Sem Value).run Tryd.prog w = .ok (.tuple #[.pointer none, .bool false]) w by kernel_rfl)
@[go_sem] theorem as_30_66 (u : TypeId) (v : Value) (w : World) : (Instr.typeAssert (.iface u v) 30 66 true).run Tryd.prog w = .ok (if u = 66 then .tuple #[v, .bool true] else .tuple #[.pointer none, .bool false]) w := by
  have e : (Instr.typeAssert (.iface u v) 30 66 true).run Tryd.prog w = (if u = 66 then (pure (Value.tuple #[v, .bool true]) : Sem Value) else (do pure (Value.tuple #[← zeroValue 66, .bool false]))).run Tryd.prog w := by kernel_rfl
  rw [e]
  by_cases h : u = 66
  · rw [if_pos h, if_pos h]; rfl
  · rw [if_neg h, if_neg h]
    exact (show (do pure (Value.tuple #[← zeroValue 66, .bool false]) : Sem Value).run Tryd.prog w = .ok (.tuple #[.pointer none, .bool false]) w by kernel_rfl)
@[go_sem] theorem as_30_53 (u : TypeId) (v : Value) (w : World) : (Instr.typeAssert (.iface u v) 30 53 true).run Tryd.prog w = .ok (if u = 53 then .tuple #[v, .bool true] else .tuple #[.pointer none, .bool false]) w := by
  have e : (Instr.typeAssert (.iface u v) 30 53 true).run Tryd.prog w = (if u = 53 then (pure (Value.tuple #[v, .bool true]) : Sem Value) else (do pure (Value.tuple #[← zeroValue 53, .bool false]))).run Tryd.prog w := by kernel_rfl
  rw [e]
  by_cases h : u = 53
  · rw [if_pos h, if_pos h]; rfl
  · rw [if_neg h, if_neg h]
    exact (show (do pure (Value.tuple #[← zeroValue 53, .bool false]) : Sem Value).run Tryd.prog w = .ok (.tuple #[.pointer none, .bool false]) w by kernel_rfl)
@[go_sem] theorem as_30_67 (u : TypeId) (v : Value) (w : World) : (Instr.typeAssert (.iface u v) 30 67 true).run Tryd.prog w = .ok (if u = 67 then .tuple #[v, .bool true] else .tuple #[.pointer none, .bool false]) w := by
  have e : (Instr.typeAssert (.iface u v) 30 67 true).run Tryd.prog w = (if u = 67 then (pure (Value.tuple #[v, .bool true]) : Sem Value) else (do pure (Value.tuple #[← zeroValue 67, .bool false]))).run Tryd.prog w := by kernel_rfl
  rw [e]
  by_cases h : u = 67
  · rw [if_pos h, if_pos h]; rfl
  · rw [if_neg h, if_neg h]
    exact (show (do pure (Value.tuple #[← zeroValue 67, .bool false]) : Sem Value).run Tryd.prog w = .ok (.tuple #[.pointer none, .bool false]) w by kernel_rfl)
@[go_sem] theorem as_30_68 (u : TypeId) (v : Value) (w : World) : (Instr.typeAssert (.iface u v) 30 68 true).run Tryd.prog w = .ok (if u = 68 then .tuple #[v, .bool true] else .tuple #[.pointer none, .bool false]) w := by
  have e : (Instr.typeAssert (.iface u v) 30 68 true).run Tryd.prog w = (if u = 68 then (pure (Value.tuple #[v, .bool true]) : Sem Value) else (do pure (Value.tuple #[← zeroValue 68, .bool false]))).run Tryd.prog w := by kernel_rfl
  rw [e]
  by_cases h : u = 68
  · rw [if_pos h, if_pos h]; rfl
  · rw [if_neg h, if_neg h]
    exact (show (do pure (Value.tuple #[← zeroValue 68, .bool false]) : Sem Value).run Tryd.prog w = .ok (.tuple #[.pointer none, .bool false]) w by kernel_rfl)
@[go_sem] theorem as_30_57 (u : TypeId) (v : Value) (w : World) : (Instr.typeAssert (.iface u v) 30 57 true).run Tryd.prog w = .ok (if u = 57 then .tuple #[v, .bool true] else .tuple #[.pointer none, .bool false]) w := by
  have e : (Instr.typeAssert (.iface u v) 30 57 true).run Tryd.prog w = (if u = 57 then (pure (Value.tuple #[v, .bool true]) : Sem Value) else (do pure (Value.tuple #[← zeroValue 57, .bool false]))).run Tryd.prog w := by kernel_rfl
  rw [e]
  by_cases h : u = 57
  · rw [if_pos h, if_pos h]; rfl
  · rw [if_neg h, if_neg h]
    exact (show (do pure (Value.tuple #[← zeroValue 57, .bool false]) : Sem Value).run Tryd.prog w = .ok (.tuple #[.pointer none, .bool false]) w by kernel_rfl)
@[go_sem] theorem as_30_28 (u : TypeId) (v : Value) (w : World) : (Instr.typeAssert (.iface u v) 30 28 true).run Tryd.prog w = .ok (if u = 28 then .tuple #[v, .bool true] else .tuple #[.pointer none, .bool false]) w := by
  have e : (Instr.typeAssert (.iface u v) 30 28 true).run Tryd.prog w = (if u = 28 then (pure (Value.tuple #[v, .bool true]) : Sem Value) else (do pure (Value.tuple #[← zeroValue 28, .bool false]))).run Tryd.prog w := by kernel_rfl
  rw [e]
  by_cases h : u = 28
  · rw [if_pos h, if_pos h]; rfl
  · rw [if_neg h, if_neg h]
    exact (show (do pure (Value.tuple #[← zeroValue 28, .bool false]) : Sem Value).run Tryd.prog w = .ok (.tuple #[.pointer none, .bool false]) w by kernel_rfl)
@[go_sem] theorem as_30_46 (u : TypeId) (v : Value) (w : World) : (Instr.typeAssert (.iface u v) 30 46 true).run Tryd.prog w = .ok (if u = 46 then .tuple #[v, .bool true] else .tuple #[.pointer none, .bool false]) w := by
  have e : (Instr.typeAssert (.iface u v) 30 46 true).run Tryd.prog w = (if u = 46 then (pure (Value.tuple #[v, .bool true]) : Sem Value) else (do pure (Value.tuple #[← zeroValue 46, .bool false]))).run Tryd.prog w := by kernel_rfl
  rw [e]
  by_cases h : u = 46
  · rw [if_pos h, if_pos h]; rfl
  · rw [if_neg h, if_neg h]
    exact (show (do pure (Value.tuple #[← zeroValue 46, .bool false]) : Sem Value).run Tryd.prog w = .ok (.tuple #[.pointer none, .bool false]) w by kernel_rfl)
@[go_sem] theorem as_30_69 (u : TypeId) (v : Value) (w : World) : (Instr.typeAssert (.iface u v) 30 69 true).run Tryd.prog w = .ok (if u = 69 then .tuple #[v, .bool true] else .tuple #[.pointer none, .bool false]) w := by
  have e : (Instr.typeAssert (.iface u v) 30 69 true).run Tryd.prog w = (if u = 69 then (pure (Value.tuple #[v, .bool true]) : Sem Value) else (do pure (Value.tuple #[← zeroValue 69, .bool false]))).run Tryd.prog w := by kernel_rfl
  rw [e]
  by_cases h : u = 69
  · rw [if_pos h, if_pos h]; rfl
  · rw [if_neg h, if_neg h]
    exact (show (do pure (Value.tuple #[← zeroValue 69, .bool false]) : Sem Value).run Tryd.prog w = .ok (.tuple #[.pointer none, .bool false]) w by kernel_rfl)
@[go_sem] theorem as_30_70 (u : TypeId) (v : Value) (w : World) : (Instr.typeAssert (.iface u v) 30 70 true).run Tryd.prog w = .ok (if u = 70 then .tuple #[v, .bool true] else .tuple #[.pointer none, .bool false]) w := by
  have e : (Instr.typeAssert (.iface u v) 30 70 true).run Tryd.prog w = (if u = 70 then (pure (Value.tuple #[v, .bool true]) : Sem Value) else (do pure (Value.tuple #[← zeroValue 70, .bool false]))).run Tryd.prog w := by kernel_rfl
  rw [e]
  by_cases h : u = 70
  · rw [if_pos h, if_pos h]; rfl
  · rw [if_neg h, if_neg h]
    exact (show (do pure (Value.tuple #[← zeroValue 70, .bool false]) : Sem Value).run Tryd.prog w = .ok (.tuple #[.pointer none, .bool false]) w by kernel_rfl)
@[go_sem] theorem as_30_71 (u : TypeId) (v : Value) (w : World) : (Instr.typeAssert (.iface u v) 30 71 true).run Tryd.prog w = .ok (if u = 71 then .tuple #[v, .bool true] else .tuple #[.pointer none, .bool false]) w := by
  have e : (Instr.typeAssert (.iface u v) 30 71 true).run Tryd.prog w = (if u = 71 then (pure (Value.tuple #[v, .bool true]) : Sem Value) else (do pure (Value.tuple #[← zeroValue 71, .bool false]))).run Tryd.prog w := by kernel_rfl
  rw [e]
  by_cases h : u = 71
  · rw [if_pos h, if_pos h]; rfl
  · rw [if_neg h, if_neg h]
    exact (show (do pure (Value.tuple #[← zeroValue 71, .bool false]) : Sem Value).run Tryd.prog w = .ok (.tuple #[.pointer none, .bool false]) w by kernel_rfl)
@[go_sem] theorem as_30_72 (u : TypeId) (v : Value) (w : World) : (Instr.typeAssert (.iface u v) 30 72 true).run Tryd.prog w = .ok (if u = 72 then .tuple #[v, .bool true] else .tuple #[.pointer none, .bool false]) w := by
  have e : (Instr.typeAssert (.iface u v) 30 72 true).run Tryd.prog w = (if u = 72 then (pure (Value.tuple #[v, .bool true]) : Sem Value) else (do pure (Value.tuple #[← zeroValue 72, .bool false]))).run Tryd.prog w := by kernel_rfl
  rw [e]
  by_cases h : u = 72
  · rw [if_pos h, if_pos h]; rfl
  · rw [if_neg h, if_neg h]
    exact (show (do pure (Value.tuple #[← zeroValue 72, .bool false]) : Sem Value).run Tryd.prog w = .ok (.tuple #[.pointer none, .bool false]) w by kernel_rfl)
@[go_sem] theorem as_30_73 (u : TypeId) (v : Value) (w : World) : (Instr.typeAssert (.iface u v) 30 73 true).run Tryd.prog w = .ok (if u = 73 then .tuple #[v, .bool true] else .tuple #[.pointer none, .bool false]) w := by
  have e : (Instr.typeAssert (.iface u v) 30 73 true).run Tryd.prog w = (if u = 73 then (pure (Value.tuple #[v, .bool true]) : Sem Value) else (do pure (Value.tuple #[← zeroValue 73, .bool false]))).run Tryd.prog w := by kernel_rfl
  rw [e]
  by_cases h : u = 73
  · rw [if_pos h, if_pos h]; rfl
  · rw [if_neg h, if_neg h]
    exact (show (do pure (Value.tuple #[← zeroValue 73, .bool false]) : Sem Value).run Tryd.prog w = .ok (.tuple #[.pointer none, .bool false]) w by kernel_rfl)
@[go_sem] theorem as_30_74 (u : TypeId) (v : Value) (w : World) : (Instr.typeAssert (.iface u v) 30 74 true).run Tryd.prog w = .ok (if u = 74 then .tuple #[v, .bool true] else .tuple #[.pointer none, .bool false]) w := by
  have e : (Instr.typeAssert (.iface u v) 30 74 true).run Tryd.prog w = (if u = 74 then (pure (Value.tuple #[v, .bool true]) : Sem Value) else (do pure (Value.tuple #[← zeroValue 74, .bool false]))).run Tryd.prog w := by kernel_rfl
  rw [e]
  by_cases h : u = 74
  · rw [if_pos h, if_pos h]; rfl
  · rw [if_neg h, if_neg h]
    exact (show (do pure (Value.tuple #[← zeroValue 74, .bool false]) : Sem Value).run Tryd.prog w = .ok (.tuple #[.pointer none, .bool false]) w by kernel_rfl)
@[go_sem] theorem as_30_61 (u : TypeId) (v : Value) (w : World) : (Instr.typeAssert (.iface u v) 30 61 true).run Tryd.prog w = .ok (if u = 61 then .tuple #[v, .bool true] else .tuple #[.pointer none, .bool false]) w := by
  have e : (Instr.typeAssert (.iface u v) 30 61 true).run Tryd.prog w = (if u = 61 then (pure (Value.tuple #[v, .bool true]) : Sem Value) else (do pure (Value.tuple #[← zeroValue 61, .bool false]))).run Tryd.prog w := by kernel_rfl
  rw [e]
  by_cases h : u = 61
  · rw [if_pos h, if_pos h]; rfl
  · rw [if_neg h, if_neg h]
    exact (show (do pure (Value.tuple #[← zeroValue 61, .bool false]) : Sem Value).run Tryd.prog w = .ok (.tuple #[.pointer none, .bool false]) w by kernel_rfl)
end Go.Proofs.YtjbjdoahpeghpabDoor
