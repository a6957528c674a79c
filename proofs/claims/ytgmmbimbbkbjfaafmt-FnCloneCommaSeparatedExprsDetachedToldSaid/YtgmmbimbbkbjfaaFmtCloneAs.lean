/-
  Type assertions of clone, at any dynamic type.
-/
import Derived.Test.YtgmmbimbbkbjfaaFmtProg
import Derived.WalkKit
namespace Go.Proofs.YtgmmbimbbkbjfaaFmt
open Go

@[go_sem] theorem as_54_161 (u : TypeId) (v : Value) (w : World) : (Instr.typeAssert (.iface u v) 47 96 true).run Tryf.prog w = .ok (if u = 96 then .tuple #[v, .bool true] else .tuple #[.pointer none, .bool false]) w := by
  have e : (Instr.typeAssert (.iface u v) 47 96 true).run Tryf.prog w = (if u = 96 then (pure (Value.tuple #[v, .bool true]) : Sem Value) else (do pure (Value.tuple #[← zeroValue 96, .bool false]))).run Tryf.prog w := by kernel_rfl
  rw [e]
  by_cases h : u = 96
  · rw [if_pos h, if_pos h]; rfl
  · rw [if_neg h, if_neg h]
    exact (show (do pure (Value.tuple #[← zeroValue 96, .bool false]) : Sem Value).run Tryf.prog w = .ok (.tuple #[.pointer none, .bool false]) w by kernel_rfl)
@[go_sem] theorem as_54_169 (u : TypeId) (v : Value) (w : World) : (Instr.typeAssert (.iface u v) 47 104 true).run Tryf.prog w = .ok (if u = 104 then .tuple #[v, .bool true] else .tuple #[.pointer none, .bool false]) w := by
  have e : (Instr.typeAssert (.iface u v) 47 104 true).run Tryf.prog w = (if u = 104 then (pure (Value.tuple #[v, .bool true]) : Sem Value) else (do pure (Value.tuple #[← zeroValue 104, .bool false]))).run Tryf.prog w := by kernel_rfl
  rw [e]
  by_cases h : u = 104
  · rw [if_pos h, if_pos h]; rfl
  · rw [if_neg h, if_neg h]
    exact (show (do pure (Value.tuple #[← zeroValue 104, .bool false]) : Sem Value).run Tryf.prog w = .ok (.tuple #[.pointer none, .bool false]) w by kernel_rfl)
@[go_sem] theorem as_54_29 (u : TypeId) (v : Value) (w : World) : (Instr.typeAssert (.iface u v) 47 107 true).run Tryf.prog w = .ok (if u = 107 then .tuple #[v, .bool true] else .tuple #[.pointer none, .bool false]) w := by
  have e : (Instr.typeAssert (.iface u v) 47 107 true).run Tryf.prog w = (if u = 107 then (pure (Value.tuple #[v, .bool true]) : Sem Value) else (do pure (Value.tuple #[← zeroValue 107, .bool false]))).run Tryf.prog w := by kernel_rfl
  rw [e]
  by_cases h : u = 107
  · rw [if_pos h, if_pos h]; rfl
  · rw [if_neg h, if_neg h]
    exact (show (do pure (Value.tuple #[← zeroValue 107, .bool false]) : Sem Value).run Tryf.prog w = .ok (.tuple #[.pointer none, .bool false]) w by kernel_rfl)
@[go_sem] theorem as_54_172 (u : TypeId) (v : Value) (w : World) : (Instr.typeAssert (.iface u v) 47 110 true).run Tryf.prog w = .ok (if u = 110 then .tuple #[v, .bool true] else .tuple #[.pointer none, .bool false]) w := by
  have e : (Instr.typeAssert (.iface u v) 47 110 true).run Tryf.prog w = (if u = 110 then (pure (Value.tuple #[v, .bool true]) : Sem Value) else (do pure (Value.tuple #[← zeroValue 110, .bool false]))).run Tryf.prog w := by kernel_rfl
  rw [e]
  by_cases h : u = 110
  · rw [if_pos h, if_pos h]; rfl
  · rw [if_neg h, if_neg h]
    exact (show (do pure (Value.tuple #[← zeroValue 110, .bool false]) : Sem Value).run Tryf.prog w = .ok (.tuple #[.pointer none, .bool false]) w by kernel_rfl)
@[go_sem] theorem as_54_175 (u : TypeId) (v : Value) (w : World) : (Instr.typeAssert (.iface u v) 47 118 true).run Tryf.prog w = .ok (if u = 118 then .tuple #[v, .bool true] else .tuple #[.pointer none, .bool false]) w := by
  have e : (Instr.typeAssert (.iface u v) 47 118 true).run Tryf.prog w = (if u = 118 then (pure (Value.tuple #[v, .bool true]) : Sem Value) else (do pure (Value.tuple #[← zeroValue 118, .bool false]))).run Tryf.prog w := by kernel_rfl
  rw [e]
  by_cases h : u = 118
  · rw [if_pos h, if_pos h]; rfl
  · rw [if_neg h, if_neg h]
    exact (show (do pure (Value.tuple #[← zeroValue 118, .bool false]) : Sem Value).run Tryf.prog w = .ok (.tuple #[.pointer none, .bool false]) w by kernel_rfl)
@[go_sem] theorem as_54_138 (u : TypeId) (v : Value) (w : World) : (Instr.typeAssert (.iface u v) 47 81 true).run Tryf.prog w = .ok (if u = 81 then .tuple #[v, .bool true] else .tuple #[.pointer none, .bool false]) w := by
  have e : (Instr.typeAssert (.iface u v) 47 81 true).run Tryf.prog w = (if u = 81 then (pure (Value.tuple #[v, .bool true]) : Sem Value) else (do pure (Value.tuple #[← zeroValue 81, .bool false]))).run Tryf.prog w := by kernel_rfl
  rw [e]
  by_cases h : u = 81
  · rw [if_pos h, if_pos h]; rfl
  · rw [if_neg h, if_neg h]
    exact (show (do pure (Value.tuple #[← zeroValue 81, .bool false]) : Sem Value).run Tryf.prog w = .ok (.tuple #[.pointer none, .bool false]) w by kernel_rfl)
@[go_sem] theorem as_54_178 (u : TypeId) (v : Value) (w : World) : (Instr.typeAssert (.iface u v) 47 121 true).run Tryf.prog w = .ok (if u = 121 then .tuple #[v, .bool true] else .tuple #[.pointer none, .bool false]) w := by
  have e : (Instr.typeAssert (.iface u v) 47 121 true).run Tryf.prog w = (if u = 121 then (pure (Value.tuple #[v, .bool true]) : Sem Value) else (do pure (Value.tuple #[← zeroValue 121, .bool false]))).run Tryf.prog w := by kernel_rfl
  rw [e]
  by_cases h : u = 121
  · rw [if_pos h, if_pos h]; rfl
  · rw [if_neg h, if_neg h]
    exact (show (do pure (Value.tuple #[← zeroValue 121, .bool false]) : Sem Value).run Tryf.prog w = .ok (.tuple #[.pointer none, .bool false]) w by kernel_rfl)
@[go_sem] theorem as_54_181 (u : TypeId) (v : Value) (w : World) : (Instr.typeAssert (.iface u v) 47 124 true).run Tryf.prog w = .ok (if u = 124 then .tuple #[v, .bool true] else .tuple #[.pointer none, .bool false]) w := by
  have e : (Instr.typeAssert (.iface u v) 47 124 true).run Tryf.prog w = (if u = 124 then (pure (Value.tuple #[v, .bool true]) : Sem Value) else (do pure (Value.tuple #[← zeroValue 124, .bool false]))).run Tryf.prog w := by kernel_rfl
  rw [e]
  by_cases h : u = 124
  · rw [if_pos h, if_pos h]; rfl
  · rw [if_neg h, if_neg h]
    exact (show (do pure (Value.tuple #[← zeroValue 124, .bool false]) : Sem Value).run Tryf.prog w = .ok (.tuple #[.pointer none, .bool false]) w by kernel_rfl)
@[go_sem] theorem as_54_184 (u : TypeId) (v : Value) (w : World) : (Instr.typeAssert (.iface u v) 47 127 true).run Tryf.prog w = .ok (if u = 127 then .tuple #[v, .bool true] else .tuple #[.pointer none, .bool false]) w := by
  have e : (Instr.typeAssert (.iface u v) 47 127 true).run Tryf.prog w = (if u = 127 then (pure (Value.tuple #[v, .bool true]) : Sem Value) else (do pure (Value.tuple #[← zeroValue 127, .bool false]))).run Tryf.prog w := by kernel_rfl
  rw [e]
  by_cases h : u = 127
  · rw [if_pos h, if_pos h]; rfl
  · rw [if_neg h, if_neg h]
    exact (show (do pure (Value.tuple #[← zeroValue 127, .bool false]) : Sem Value).run Tryf.prog w = .ok (.tuple #[.pointer none, .bool false]) w by kernel_rfl)
@[go_sem] theorem as_54_69 (u : TypeId) (v : Value) (w : World) : (Instr.typeAssert (.iface u v) 47 130 true).run Tryf.prog w = .ok (if u = 130 then .tuple #[v, .bool true] else .tuple #[.pointer none, .bool false]) w := by
  have e : (Instr.typeAssert (.iface u v) 47 130 true).run Tryf.prog w = (if u = 130 then (pure (Value.tuple #[v, .bool true]) : Sem Value) else (do pure (Value.tuple #[← zeroValue 130, .bool false]))).run Tryf.prog w := by kernel_rfl
  rw [e]
  by_cases h : u = 130
  · rw [if_pos h, if_pos h]; rfl
  · rw [if_neg h, if_neg h]
    exact (show (do pure (Value.tuple #[← zeroValue 130, .bool false]) : Sem Value).run Tryf.prog w = .ok (.tuple #[.pointer none, .bool false]) w by kernel_rfl)
@[go_sem] theorem as_54_187 (u : TypeId) (v : Value) (w : World) : (Instr.typeAssert (.iface u v) 47 136 true).run Tryf.prog w = .ok (if u = 136 then .tuple #[v, .bool true] else .tuple #[.pointer none, .bool false]) w := by
  have e : (Instr.typeAssert (.iface u v) 47 136 true).run Tryf.prog w = (if u = 136 then (pure (Value.tuple #[v, .bool true]) : Sem Value) else (do pure (Value.tuple #[← zeroValue 136, .bool false]))).run Tryf.prog w := by kernel_rfl
  rw [e]
  by_cases h : u = 136
  · rw [if_pos h, if_pos h]; rfl
  · rw [if_neg h, if_neg h]
    exact (show (do pure (Value.tuple #[← zeroValue 136, .bool false]) : Sem Value).run Tryf.prog w = .ok (.tuple #[.pointer none, .bool false]) w by kernel_rfl)
@[go_sem] theorem as_54_190 (u : TypeId) (v : Value) (w : World) : (Instr.typeAssert (.iface u v) 47 139 true).run Tryf.prog w = .ok (if u = 139 then .tuple #[v, .bool true] else .tuple #[.pointer none, .bool false]) w := by
  have e : (Instr.typeAssert (.iface u v) 47 139 true).run Tryf.prog w = (if u = 139 then (pure (Value.tuple #[v, .bool true]) : Sem Value) else (do pure (Value.tuple #[← zeroValue 139, .bool false]))).run Tryf.prog w := by kernel_rfl
  rw [e]
  by_cases h : u = 139
  · rw [if_pos h, if_pos h]; rfl
  · rw [if_neg h, if_neg h]
    exact (show (do pure (Value.tuple #[← zeroValue 139, .bool false]) : Sem Value).run Tryf.prog w = .ok (.tuple #[.pointer none, .bool false]) w by kernel_rfl)
@[go_sem] theorem as_54_192 (u : TypeId) (v : Value) (w : World) : (Instr.typeAssert (.iface u v) 47 141 true).run Tryf.prog w = .ok (if u = 141 then .tuple #[v, .bool true] else .tuple #[.pointer none, .bool false]) w := by
  have e : (Instr.typeAssert (.iface u v) 47 141 true).run Tryf.prog w = (if u = 141 then (pure (Value.tuple #[v, .bool true]) : Sem Value) else (do pure (Value.tuple #[← zeroValue 141, .bool false]))).run Tryf.prog w := by kernel_rfl
  rw [e]
  by_cases h : u = 141
  · rw [if_pos h, if_pos h]; rfl
  · rw [if_neg h, if_neg h]
    exact (show (do pure (Value.tuple #[← zeroValue 141, .bool false]) : Sem Value).run Tryf.prog w = .ok (.tuple #[.pointer none, .bool false]) w by kernel_rfl)
@[go_sem] theorem as_54_194 (u : TypeId) (v : Value) (w : World) : (Instr.typeAssert (.iface u v) 47 143 true).run Tryf.prog w = .ok (if u = 143 then .tuple #[v, .bool true] else .tuple #[.pointer none, .bool false]) w := by
  have e : (Instr.typeAssert (.iface u v) 47 143 true).run Tryf.prog w = (if u = 143 then (pure (Value.tuple #[v, .bool true]) : Sem Value) else (do pure (Value.tuple #[← zeroValue 143, .bool false]))).run Tryf.prog w := by kernel_rfl
  rw [e]
  by_cases h : u = 143
  · rw [if_pos h, if_pos h]; rfl
  · rw [if_neg h, if_neg h]
    exact (show (do pure (Value.tuple #[← zeroValue 143, .bool false]) : Sem Value).run Tryf.prog w = .ok (.tuple #[.pointer none, .bool false]) w by kernel_rfl)
@[go_sem] theorem as_54_197 (u : TypeId) (v : Value) (w : World) : (Instr.typeAssert (.iface u v) 47 146 true).run Tryf.prog w = .ok (if u = 146 then .tuple #[v, .bool true] else .tuple #[.pointer none, .bool false]) w := by
  have e : (Instr.typeAssert (.iface u v) 47 146 true).run Tryf.prog w = (if u = 146 then (pure (Value.tuple #[v, .bool true]) : Sem Value) else (do pure (Value.tuple #[← zeroValue 146, .bool false]))).run Tryf.prog w := by kernel_rfl
  rw [e]
  by_cases h : u = 146
  · rw [if_pos h, if_pos h]; rfl
  · rw [if_neg h, if_neg h]
    exact (show (do pure (Value.tuple #[← zeroValue 146, .bool false]) : Sem Value).run Tryf.prog w = .ok (.tuple #[.pointer none, .bool false]) w by kernel_rfl)
@[go_sem] theorem as_54_200 (u : TypeId) (v : Value) (w : World) : (Instr.typeAssert (.iface u v) 47 149 true).run Tryf.prog w = .ok (if u = 149 then .tuple #[v, .bool true] else .tuple #[.pointer none, .bool false]) w := by
  have e : (Instr.typeAssert (.iface u v) 47 149 true).run Tryf.prog w = (if u = 149 then (pure (Value.tuple #[v, .bool true]) : Sem Value) else (do pure (Value.tuple #[← zeroValue 149, .bool false]))).run Tryf.prog w := by kernel_rfl
  rw [e]
  by_cases h : u = 149
  · rw [if_pos h, if_pos h]; rfl
  · rw [if_neg h, if_neg h]
    exact (show (do pure (Value.tuple #[← zeroValue 149, .bool false]) : Sem Value).run Tryf.prog w = .ok (.tuple #[.pointer none, .bool false]) w by kernel_rfl)
@[go_sem] theorem asf_54_69 (v : Value) (w : World) : (Instr.typeAssert (.iface 130 v) 47 130 false).run Tryf.prog w = .ok v w := by kernel_rfl
@[go_sem] theorem as_54_207 (u : TypeId) (v : Value) (w : World) : (Instr.typeAssert (.iface u v) 47 156 true).run Tryf.prog w = .ok (if u = 156 then .tuple #[v, .bool true] else .tuple #[.pointer none, .bool false]) w := by
  have e : (Instr.typeAssert (.iface u v) 47 156 true).run Tryf.prog w = (if u = 156 then (pure (Value.tuple #[v, .bool true]) : Sem Value) else (do pure (Value.tuple #[← zeroValue 156, .bool false]))).run Tryf.prog w := by kernel_rfl
  rw [e]
  by_cases h : u = 156
  · rw [if_pos h, if_pos h]; rfl
  · rw [if_neg h, if_neg h]
    exact (show (do pure (Value.tuple #[← zeroValue 156, .bool false]) : Sem Value).run Tryf.prog w = .ok (.tuple #[.pointer none, .bool false]) w by kernel_rfl)
@[go_sem] theorem as_54_210 (u : TypeId) (v : Value) (w : World) : (Instr.typeAssert (.iface u v) 47 159 true).run Tryf.prog w = .ok (if u = 159 then .tuple #[v, .bool true] else .tuple #[.pointer none, .bool false]) w := by
  have e : (Instr.typeAssert (.iface u v) 47 159 true).run Tryf.prog w = (if u = 159 then (pure (Value.tuple #[v, .bool true]) : Sem Value) else (do pure (Value.tuple #[← zeroValue 159, .bool false]))).run Tryf.prog w := by kernel_rfl
  rw [e]
  by_cases h : u = 159
  · rw [if_pos h, if_pos h]; rfl
  · rw [if_neg h, if_neg h]
    exact (show (do pure (Value.tuple #[← zeroValue 159, .bool false]) : Sem Value).run Tryf.prog w = .ok (.tuple #[.pointer none, .bool false]) w by kernel_rfl)
@[go_sem] theorem as_54_212 (u : TypeId) (v : Value) (w : World) : (Instr.typeAssert (.iface u v) 47 161 true).run Tryf.prog w = .ok (if u = 161 then .tuple #[v, .bool true] else .tuple #[.pointer none, .bool false]) w := by
  have e : (Instr.typeAssert (.iface u v) 47 161 true).run Tryf.prog w = (if u = 161 then (pure (Value.tuple #[v, .bool true]) : Sem Value) else (do pure (Value.tuple #[← zeroValue 161, .bool false]))).run Tryf.prog w := by kernel_rfl
  rw [e]
  by_cases h : u = 161
  · rw [if_pos h, if_pos h]; rfl
  · rw [if_neg h, if_neg h]
    exact (show (do pure (Value.tuple #[← zeroValue 161, .bool false]) : Sem Value).run Tryf.prog w = .ok (.tuple #[.pointer none, .bool false]) w by kernel_rfl)
@[go_sem] theorem as_54_72 (u : TypeId) (v : Value) (w : World) : (Instr.typeAssert (.iface u v) 47 28 true).run Tryf.prog w = .ok (if u = 28 then .tuple #[v, .bool true] else .tuple #[.pointer none, .bool false]) w := by
  have e : (Instr.typeAssert (.iface u v) 47 28 true).run Tryf.prog w = (if u = 28 then (pure (Value.tuple #[v, .bool true]) : Sem Value) else (do pure (Value.tuple #[← zeroValue 28, .bool false]))).run Tryf.prog w := by kernel_rfl
  rw [e]
  by_cases h : u = 28
  · rw [if_pos h, if_pos h]; rfl
  · rw [if_neg h, if_neg h]
    exact (show (do pure (Value.tuple #[← zeroValue 28, .bool false]) : Sem Value).run Tryf.prog w = .ok (.tuple #[.pointer none, .bool false]) w by kernel_rfl)
@[go_sem] theorem as_54_215 (u : TypeId) (v : Value) (w : World) : (Instr.typeAssert (.iface u v) 47 164 true).run Tryf.prog w = .ok (if u = 164 then .tuple #[v, .bool true] else .tuple #[.pointer none, .bool false]) w := by
  have e : (Instr.typeAssert (.iface u v) 47 164 true).run Tryf.prog w = (if u = 164 then (pure (Value.tuple #[v, .bool true]) : Sem Value) else (do pure (Value.tuple #[← zeroValue 164, .bool false]))).run Tryf.prog w := by kernel_rfl
  rw [e]
  by_cases h : u = 164
  · rw [if_pos h, if_pos h]; rfl
  · rw [if_neg h, if_neg h]
    exact (show (do pure (Value.tuple #[← zeroValue 164, .bool false]) : Sem Value).run Tryf.prog w = .ok (.tuple #[.pointer none, .bool false]) w by kernel_rfl)
@[go_sem] theorem as_54_220 (u : TypeId) (v : Value) (w : World) : (Instr.typeAssert (.iface u v) 47 174 true).run Tryf.prog w = .ok (if u = 174 then .tuple #[v, .bool true] else .tuple #[.pointer none, .bool false]) w := by
  have e : (Instr.typeAssert (.iface u v) 47 174 true).run Tryf.prog w = (if u = 174 then (pure (Value.tuple #[v, .bool true]) : Sem Value) else (do pure (Value.tuple #[← zeroValue 174, .bool false]))).run Tryf.prog w := by kernel_rfl
  rw [e]
  by_cases h : u = 174
  · rw [if_pos h, if_pos h]; rfl
  · rw [if_neg h, if_neg h]
    exact (show (do pure (Value.tuple #[← zeroValue 174, .bool false]) : Sem Value).run Tryf.prog w = .ok (.tuple #[.pointer none, .bool false]) w by kernel_rfl)
@[go_sem] theorem as_54_227 (u : TypeId) (v : Value) (w : World) : (Instr.typeAssert (.iface u v) 47 181 true).run Tryf.prog w = .ok (if u = 181 then .tuple #[v, .bool true] else .tuple #[.pointer none, .bool false]) w := by
  have e : (Instr.typeAssert (.iface u v) 47 181 true).run Tryf.prog w = (if u = 181 then (pure (Value.tuple #[v, .bool true]) : Sem Value) else (do pure (Value.tuple #[← zeroValue 181, .bool false]))).run Tryf.prog w := by kernel_rfl
  rw [e]
  by_cases h : u = 181
  · rw [if_pos h, if_pos h]; rfl
  · rw [if_neg h, if_neg h]
    exact (show (do pure (Value.tuple #[← zeroValue 181, .bool false]) : Sem Value).run Tryf.prog w = .ok (.tuple #[.pointer none, .bool false]) w by kernel_rfl)
@[go_sem] theorem as_54_230 (u : TypeId) (v : Value) (w : World) : (Instr.typeAssert (.iface u v) 47 184 true).run Tryf.prog w = .ok (if u = 184 then .tuple #[v, .bool true] else .tuple #[.pointer none, .bool false]) w := by
  have e : (Instr.typeAssert (.iface u v) 47 184 true).run Tryf.prog w = (if u = 184 then (pure (Value.tuple #[v, .bool true]) : Sem Value) else (do pure (Value.tuple #[← zeroValue 184, .bool false]))).run Tryf.prog w := by kernel_rfl
  rw [e]
  by_cases h : u = 184
  · rw [if_pos h, if_pos h]; rfl
  · rw [if_neg h, if_neg h]
    exact (show (do pure (Value.tuple #[← zeroValue 184, .bool false]) : Sem Value).run Tryf.prog w = .ok (.tuple #[.pointer none, .bool false]) w by kernel_rfl)
@[go_sem] theorem as_54_233 (u : TypeId) (v : Value) (w : World) : (Instr.typeAssert (.iface u v) 47 187 true).run Tryf.prog w = .ok (if u = 187 then .tuple #[v, .bool true] else .tuple #[.pointer none, .bool false]) w := by
  have e : (Instr.typeAssert (.iface u v) 47 187 true).run Tryf.prog w = (if u = 187 then (pure (Value.tuple #[v, .bool true]) : Sem Value) else (do pure (Value.tuple #[← zeroValue 187, .bool false]))).run Tryf.prog w := by kernel_rfl
  rw [e]
  by_cases h : u = 187
  · rw [if_pos h, if_pos h]; rfl
  · rw [if_neg h, if_neg h]
    exact (show (do pure (Value.tuple #[← zeroValue 187, .bool false]) : Sem Value).run Tryf.prog w = .ok (.tuple #[.pointer none, .bool false]) w by kernel_rfl)
@[go_sem] theorem as_54_235 (u : TypeId) (v : Value) (w : World) : (Instr.typeAssert (.iface u v) 47 189 true).run Tryf.prog w = .ok (if u = 189 then .tuple #[v, .bool true] else .tuple #[.pointer none, .bool false]) w := by
  have e : (Instr.typeAssert (.iface u v) 47 189 true).run Tryf.prog w = (if u = 189 then (pure (Value.tuple #[v, .bool true]) : Sem Value) else (do pure (Value.tuple #[← zeroValue 189, .bool false]))).run Tryf.prog w := by kernel_rfl
  rw [e]
  by_cases h : u = 189
  · rw [if_pos h, if_pos h]; rfl
  · rw [if_neg h, if_neg h]
    exact (show (do pure (Value.tuple #[← zeroValue 189, .bool false]) : Sem Value).run Tryf.prog w = .ok (.tuple #[.pointer none, .bool false]) w by kernel_rfl)
@[go_sem] theorem as_54_238 (u : TypeId) (v : Value) (w : World) : (Instr.typeAssert (.iface u v) 47 192 true).run Tryf.prog w = .ok (if u = 192 then .tuple #[v, .bool true] else .tuple #[.pointer none, .bool false]) w := by
  have e : (Instr.typeAssert (.iface u v) 47 192 true).run Tryf.prog w = (if u = 192 then (pure (Value.tuple #[v, .bool true]) : Sem Value) else (do pure (Value.tuple #[← zeroValue 192, .bool false]))).run Tryf.prog w := by kernel_rfl
  rw [e]
  by_cases h : u = 192
  · rw [if_pos h, if_pos h]; rfl
  · rw [if_neg h, if_neg h]
    exact (show (do pure (Value.tuple #[← zeroValue 192, .bool false]) : Sem Value).run Tryf.prog w = .ok (.tuple #[.pointer none, .bool false]) w by kernel_rfl)
@[go_sem] theorem as_54_241 (u : TypeId) (v : Value) (w : World) : (Instr.typeAssert (.iface u v) 47 195 true).run Tryf.prog w = .ok (if u = 195 then .tuple #[v, .bool true] else .tuple #[.pointer none, .bool false]) w := by
  have e : (Instr.typeAssert (.iface u v) 47 195 true).run Tryf.prog w = (if u = 195 then (pure (Value.tuple #[v, .bool true]) : Sem Value) else (do pure (Value.tuple #[← zeroValue 195, .bool false]))).run Tryf.prog w := by kernel_rfl
  rw [e]
  by_cases h : u = 195
  · rw [if_pos h, if_pos h]; rfl
  · rw [if_neg h, if_neg h]
    exact (show (do pure (Value.tuple #[← zeroValue 195, .bool false]) : Sem Value).run Tryf.prog w = .ok (.tuple #[.pointer none, .bool false]) w by kernel_rfl)
@[go_sem] theorem as_54_57 (u : TypeId) (v : Value) (w : World) : (Instr.typeAssert (.iface u v) 47 40 true).run Tryf.prog w = .ok (if u = 40 then .tuple #[v, .bool true] else .tuple #[.pointer none, .bool false]) w := by
  have e : (Instr.typeAssert (.iface u v) 47 40 true).run Tryf.prog w = (if u = 40 then (pure (Value.tuple #[v, .bool true]) : Sem Value) else (do pure (Value.tuple #[← zeroValue 40, .bool false]))).run Tryf.prog w := by kernel_rfl
  rw [e]
  by_cases h : u = 40
  · rw [if_pos h, if_pos h]; rfl
  · rw [if_neg h, if_neg h]
    exact (show (do pure (Value.tuple #[← zeroValue 40, .bool false]) : Sem Value).run Tryf.prog w = .ok (.tuple #[.pointer none, .bool false]) w by kernel_rfl)

end Go.Proofs.YtgmmbimbbkbjfaaFmt
