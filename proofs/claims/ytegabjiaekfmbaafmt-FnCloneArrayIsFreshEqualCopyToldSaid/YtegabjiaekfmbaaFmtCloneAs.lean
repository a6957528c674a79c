/-
  Type assertions of clone, at any dynamic type.
-/
import Derived.Test.YtegabjiaekfmbaaFmtProg
import Derived.WalkKit
namespace Go.Proofs.YtegabjiaekfmbaaFmt
open Go

@[go_sem] theorem as_54_161 (u : TypeId) (v : Value) (w : World) : (Instr.typeAssert (.iface u v) 54 110 true).run Tryf.prog w = .ok (if u = 110 then .tuple #[v, .bool true] else .tuple #[.pointer none, .bool false]) w := by
  have e : (Instr.typeAssert (.iface u v) 54 110 true).run Tryf.prog w = (if u = 110 then (pure (Value.tuple #[v, .bool true]) : Sem Value) else (do pure (Value.tuple #[← zeroValue 110, .bool false]))).run Tryf.prog w := by kernel_rfl
  rw [e]
  by_cases h : u = 110
  · rw [if_pos h, if_pos h]; rfl
  · rw [if_neg h, if_neg h]
    exact (show (do pure (Value.tuple #[← zeroValue 110, .bool false]) : Sem Value).run Tryf.prog w = .ok (.tuple #[.pointer none, .bool false]) w by kernel_rfl)
@[go_sem] theorem as_54_169 (u : TypeId) (v : Value) (w : World) : (Instr.typeAssert (.iface u v) 54 118 true).run Tryf.prog w = .ok (if u = 118 then .tuple #[v, .bool true] else .tuple #[.pointer none, .bool false]) w := by
  have e : (Instr.typeAssert (.iface u v) 54 118 true).run Tryf.prog w = (if u = 118 then (pure (Value.tuple #[v, .bool true]) : Sem Value) else (do pure (Value.tuple #[← zeroValue 118, .bool false]))).run Tryf.prog w := by kernel_rfl
  rw [e]
  by_cases h : u = 118
  · rw [if_pos h, if_pos h]; rfl
  · rw [if_neg h, if_neg h]
    exact (show (do pure (Value.tuple #[← zeroValue 118, .bool false]) : Sem Value).run Tryf.prog w = .ok (.tuple #[.pointer none, .bool false]) w by kernel_rfl)
@[go_sem] theorem as_54_29 (u : TypeId) (v : Value) (w : World) : (Instr.typeAssert (.iface u v) 54 29 true).run Tryf.prog w = .ok (if u = 29 then .tuple #[v, .bool true] else .tuple #[.pointer none, .bool false]) w := by
  have e : (Instr.typeAssert (.iface u v) 54 29 true).run Tryf.prog w = (if u = 29 then (pure (Value.tuple #[v, .bool true]) : Sem Value) else (do pure (Value.tuple #[← zeroValue 29, .bool false]))).run Tryf.prog w := by kernel_rfl
  rw [e]
  by_cases h : u = 29
  · rw [if_pos h, if_pos h]; rfl
  · rw [if_neg h, if_neg h]
    exact (show (do pure (Value.tuple #[← zeroValue 29, .bool false]) : Sem Value).run Tryf.prog w = .ok (.tuple #[.pointer none, .bool false]) w by kernel_rfl)
@[go_sem] theorem as_54_172 (u : TypeId) (v : Value) (w : World) : (Instr.typeAssert (.iface u v) 54 121 true).run Tryf.prog w = .ok (if u = 121 then .tuple #[v, .bool true] else .tuple #[.pointer none, .bool false]) w := by
  have e : (Instr.typeAssert (.iface u v) 54 121 true).run Tryf.prog w = (if u = 121 then (pure (Value.tuple #[v, .bool true]) : Sem Value) else (do pure (Value.tuple #[← zeroValue 121, .bool false]))).run Tryf.prog w := by kernel_rfl
  rw [e]
  by_cases h : u = 121
  · rw [if_pos h, if_pos h]; rfl
  · rw [if_neg h, if_neg h]
    exact (show (do pure (Value.tuple #[← zeroValue 121, .bool false]) : Sem Value).run Tryf.prog w = .ok (.tuple #[.pointer none, .bool false]) w by kernel_rfl)
@[go_sem] theorem as_54_175 (u : TypeId) (v : Value) (w : World) : (Instr.typeAssert (.iface u v) 54 129 true).run Tryf.prog w = .ok (if u = 129 then .tuple #[v, .bool true] else .tuple #[.pointer none, .bool false]) w := by
  have e : (Instr.typeAssert (.iface u v) 54 129 true).run Tryf.prog w = (if u = 129 then (pure (Value.tuple #[v, .bool true]) : Sem Value) else (do pure (Value.tuple #[← zeroValue 129, .bool false]))).run Tryf.prog w := by kernel_rfl
  rw [e]
  by_cases h : u = 129
  · rw [if_pos h, if_pos h]; rfl
  · rw [if_neg h, if_neg h]
    exact (show (do pure (Value.tuple #[← zeroValue 129, .bool false]) : Sem Value).run Tryf.prog w = .ok (.tuple #[.pointer none, .bool false]) w by kernel_rfl)
@[go_sem] theorem as_54_138 (u : TypeId) (v : Value) (w : World) : (Instr.typeAssert (.iface u v) 54 132 true).run Tryf.prog w = .ok (if u = 132 then .tuple #[v, .bool true] else .tuple #[.pointer none, .bool false]) w := by
  have e : (Instr.typeAssert (.iface u v) 54 132 true).run Tryf.prog w = (if u = 132 then (pure (Value.tuple #[v, .bool true]) : Sem Value) else (do pure (Value.tuple #[← zeroValue 132, .bool false]))).run Tryf.prog w := by kernel_rfl
  rw [e]
  by_cases h : u = 132
  · rw [if_pos h, if_pos h]; rfl
  · rw [if_neg h, if_neg h]
    exact (show (do pure (Value.tuple #[← zeroValue 132, .bool false]) : Sem Value).run Tryf.prog w = .ok (.tuple #[.pointer none, .bool false]) w by kernel_rfl)
@[go_sem] theorem as_54_178 (u : TypeId) (v : Value) (w : World) : (Instr.typeAssert (.iface u v) 54 136 true).run Tryf.prog w = .ok (if u = 136 then .tuple #[v, .bool true] else .tuple #[.pointer none, .bool false]) w := by
  have e : (Instr.typeAssert (.iface u v) 54 136 true).run Tryf.prog w = (if u = 136 then (pure (Value.tuple #[v, .bool true]) : Sem Value) else (do pure (Value.tuple #[← zeroValue 136, .bool false]))).run Tryf.prog w := by kernel_rfl
  rw [e]
  by_cases h : u = 136
  · rw [if_pos h, if_pos h]; rfl
  · rw [if_neg h, if_neg h]
    exact (show (do pure (Value.tuple #[← zeroValue 136, .bool false]) : Sem Value).run Tryf.prog w = .ok (.tuple #[.pointer none, .bool false]) w by kernel_rfl)
@[go_sem] theorem as_54_181 (u : TypeId) (v : Value) (w : World) : (Instr.typeAssert (.iface u v) 54 139 true).run Tryf.prog w = .ok (if u = 139 then .tuple #[v, .bool true] else .tuple #[.pointer none, .bool false]) w := by
  have e : (Instr.typeAssert (.iface u v) 54 139 true).run Tryf.prog w = (if u = 139 then (pure (Value.tuple #[v, .bool true]) : Sem Value) else (do pure (Value.tuple #[← zeroValue 139, .bool false]))).run Tryf.prog w := by kernel_rfl
  rw [e]
  by_cases h : u = 139
  · rw [if_pos h, if_pos h]; rfl
  · rw [if_neg h, if_neg h]
    exact (show (do pure (Value.tuple #[← zeroValue 139, .bool false]) : Sem Value).run Tryf.prog w = .ok (.tuple #[.pointer none, .bool false]) w by kernel_rfl)
@[go_sem] theorem as_54_184 (u : TypeId) (v : Value) (w : World) : (Instr.typeAssert (.iface u v) 54 142 true).run Tryf.prog w = .ok (if u = 142 then .tuple #[v, .bool true] else .tuple #[.pointer none, .bool false]) w := by
  have e : (Instr.typeAssert (.iface u v) 54 142 true).run Tryf.prog w = (if u = 142 then (pure (Value.tuple #[v, .bool true]) : Sem Value) else (do pure (Value.tuple #[← zeroValue 142, .bool false]))).run Tryf.prog w := by kernel_rfl
  rw [e]
  by_cases h : u = 142
  · rw [if_pos h, if_pos h]; rfl
  · rw [if_neg h, if_neg h]
    exact (show (do pure (Value.tuple #[← zeroValue 142, .bool false]) : Sem Value).run Tryf.prog w = .ok (.tuple #[.pointer none, .bool false]) w by kernel_rfl)
@[go_sem] theorem as_54_69 (u : TypeId) (v : Value) (w : World) : (Instr.typeAssert (.iface u v) 54 69 true).run Tryf.prog w = .ok (if u = 69 then .tuple #[v, .bool true] else .tuple #[.pointer none, .bool false]) w := by
  have e : (Instr.typeAssert (.iface u v) 54 69 true).run Tryf.prog w = (if u = 69 then (pure (Value.tuple #[v, .bool true]) : Sem Value) else (do pure (Value.tuple #[← zeroValue 69, .bool false]))).run Tryf.prog w := by kernel_rfl
  rw [e]
  by_cases h : u = 69
  · rw [if_pos h, if_pos h]; rfl
  · rw [if_neg h, if_neg h]
    exact (show (do pure (Value.tuple #[← zeroValue 69, .bool false]) : Sem Value).run Tryf.prog w = .ok (.tuple #[.pointer none, .bool false]) w by kernel_rfl)
@[go_sem] theorem as_54_187 (u : TypeId) (v : Value) (w : World) : (Instr.typeAssert (.iface u v) 54 145 true).run Tryf.prog w = .ok (if u = 145 then .tuple #[v, .bool true] else .tuple #[.pointer none, .bool false]) w := by
  have e : (Instr.typeAssert (.iface u v) 54 145 true).run Tryf.prog w = (if u = 145 then (pure (Value.tuple #[v, .bool true]) : Sem Value) else (do pure (Value.tuple #[← zeroValue 145, .bool false]))).run Tryf.prog w := by kernel_rfl
  rw [e]
  by_cases h : u = 145
  · rw [if_pos h, if_pos h]; rfl
  · rw [if_neg h, if_neg h]
    exact (show (do pure (Value.tuple #[← zeroValue 145, .bool false]) : Sem Value).run Tryf.prog w = .ok (.tuple #[.pointer none, .bool false]) w by kernel_rfl)
@[go_sem] theorem as_54_190 (u : TypeId) (v : Value) (w : World) : (Instr.typeAssert (.iface u v) 54 148 true).run Tryf.prog w = .ok (if u = 148 then .tuple #[v, .bool true] else .tuple #[.pointer none, .bool false]) w := by
  have e : (Instr.typeAssert (.iface u v) 54 148 true).run Tryf.prog w = (if u = 148 then (pure (Value.tuple #[v, .bool true]) : Sem Value) else (do pure (Value.tuple #[← zeroValue 148, .bool false]))).run Tryf.prog w := by kernel_rfl
  rw [e]
  by_cases h : u = 148
  · rw [if_pos h, if_pos h]; rfl
  · rw [if_neg h, if_neg h]
    exact (show (do pure (Value.tuple #[← zeroValue 148, .bool false]) : Sem Value).run Tryf.prog w = .ok (.tuple #[.pointer none, .bool false]) w by kernel_rfl)
@[go_sem] theorem as_54_192 (u : TypeId) (v : Value) (w : World) : (Instr.typeAssert (.iface u v) 54 150 true).run Tryf.prog w = .ok (if u = 150 then .tuple #[v, .bool true] else .tuple #[.pointer none, .bool false]) w := by
  have e : (Instr.typeAssert (.iface u v) 54 150 true).run Tryf.prog w = (if u = 150 then (pure (Value.tuple #[v, .bool true]) : Sem Value) else (do pure (Value.tuple #[← zeroValue 150, .bool false]))).run Tryf.prog w := by kernel_rfl
  rw [e]
  by_cases h : u = 150
  · rw [if_pos h, if_pos h]; rfl
  · rw [if_neg h, if_neg h]
    exact (show (do pure (Value.tuple #[← zeroValue 150, .bool false]) : Sem Value).run Tryf.prog w = .ok (.tuple #[.pointer none, .bool false]) w by kernel_rfl)
@[go_sem] theorem as_54_194 (u : TypeId) (v : Value) (w : World) : (Instr.typeAssert (.iface u v) 54 152 true).run Tryf.prog w = .ok (if u = 152 then .tuple #[v, .bool true] else .tuple #[.pointer none, .bool false]) w := by
  have e : (Instr.typeAssert (.iface u v) 54 152 true).run Tryf.prog w = (if u = 152 then (pure (Value.tuple #[v, .bool true]) : Sem Value) else (do pure (Value.tuple #[← zeroValue 152, .bool false]))).run Tryf.prog w := by kernel_rfl
  rw [e]
  by_cases h : u = 152
  · rw [if_pos h, if_pos h]; rfl
  · rw [if_neg h, if_neg h]
    exact (show (do pure (Value.tuple #[← zeroValue 152, .bool false]) : Sem Value).run Tryf.prog w = .ok (.tuple #[.pointer none, .bool false]) w by kernel_rfl)
@[go_sem] theorem as_54_197 (u : TypeId) (v : Value) (w : World) : (Instr.typeAssert (.iface u v) 54 155 true).run Tryf.prog w = .ok (if u = 155 then .tuple #[v, .bool true] else .tuple #[.pointer none, .bool false]) w := by
  have e : (Instr.typeAssert (.iface u v) 54 155 true).run Tryf.prog w = (if u = 155 then (pure (Value.tuple #[v, .bool true]) : Sem Value) else (do pure (Value.tuple #[← zeroValue 155, .bool false]))).run Tryf.prog w := by kernel_rfl
  rw [e]
  by_cases h : u = 155
  · rw [if_pos h, if_pos h]; rfl
  · rw [if_neg h, if_neg h]
    exact (show (do pure (Value.tuple #[← zeroValue 155, .bool false]) : Sem Value).run Tryf.prog w = .ok (.tuple #[.pointer none, .bool false]) w by kernel_rfl)
@[go_sem] theorem as_54_200 (u : TypeId) (v : Value) (w : World) : (Instr.typeAssert (.iface u v) 54 158 true).run Tryf.prog w = .ok (if u = 158 then .tuple #[v, .bool true] else .tuple #[.pointer none, .bool false]) w := by
  have e : (Instr.typeAssert (.iface u v) 54 158 true).run Tryf.prog w = (if u = 158 then (pure (Value.tuple #[v, .bool true]) : Sem Value) else (do pure (Value.tuple #[← zeroValue 158, .bool false]))).run Tryf.prog w := by kernel_rfl
  rw [e]
  by_cases h : u = 158
  · rw [if_pos h, if_pos h]; rfl
  · rw [if_neg h, if_neg h]
    exact (show (do pure (Value.tuple #[← zeroValue 158, .bool false]) : Sem Value).run Tryf.prog w = .ok (.tuple #[.pointer none, .bool false]) w by kernel_rfl)
@[go_sem] theorem asf_54_69 (v : Value) (w : World) : (Instr.typeAssert (.iface 69 v) 54 69 false).run Tryf.prog w = .ok v w := by kernel_rfl
@[go_sem] theorem as_54_207 (u : TypeId) (v : Value) (w : World) : (Instr.typeAssert (.iface u v) 54 165 true).run Tryf.prog w = .ok (if u = 165 then .tuple #[v, .bool true] else .tuple #[.pointer none, .bool false]) w := by
  have e : (Instr.typeAssert (.iface u v) 54 165 true).run Tryf.prog w = (if u = 165 then (pure (Value.tuple #[v, .bool true]) : Sem Value) else (do pure (Value.tuple #[← zeroValue 165, .bool false]))).run Tryf.prog w := by kernel_rfl
  rw [e]
  by_cases h : u = 165
  · rw [if_pos h, if_pos h]; rfl
  · rw [if_neg h, if_neg h]
    exact (show (do pure (Value.tuple #[← zeroValue 165, .bool false]) : Sem Value).run Tryf.prog w = .ok (.tuple #[.pointer none, .bool false]) w by kernel_rfl)
@[go_sem] theorem as_54_210 (u : TypeId) (v : Value) (w : World) : (Instr.typeAssert (.iface u v) 54 168 true).run Tryf.prog w = .ok (if u = 168 then .tuple #[v, .bool true] else .tuple #[.pointer none, .bool false]) w := by
  have e : (Instr.typeAssert (.iface u v) 54 168 true).run Tryf.prog w = (if u = 168 then (pure (Value.tuple #[v, .bool true]) : Sem Value) else (do pure (Value.tuple #[← zeroValue 168, .bool false]))).run Tryf.prog w := by kernel_rfl
  rw [e]
  by_cases h : u = 168
  · rw [if_pos h, if_pos h]; rfl
  · rw [if_neg h, if_neg h]
    exact (show (do pure (Value.tuple #[← zeroValue 168, .bool false]) : Sem Value).run Tryf.prog w = .ok (.tuple #[.pointer none, .bool false]) w by kernel_rfl)
@[go_sem] theorem as_54_212 (u : TypeId) (v : Value) (w : World) : (Instr.typeAssert (.iface u v) 54 170 true).run Tryf.prog w = .ok (if u = 170 then .tuple #[v, .bool true] else .tuple #[.pointer none, .bool false]) w := by
  have e : (Instr.typeAssert (.iface u v) 54 170 true).run Tryf.prog w = (if u = 170 then (pure (Value.tuple #[v, .bool true]) : Sem Value) else (do pure (Value.tuple #[← zeroValue 170, .bool false]))).run Tryf.prog w := by kernel_rfl
  rw [e]
  by_cases h : u = 170
  · rw [if_pos h, if_pos h]; rfl
  · rw [if_neg h, if_neg h]
    exact (show (do pure (Value.tuple #[← zeroValue 170, .bool false]) : Sem Value).run Tryf.prog w = .ok (.tuple #[.pointer none, .bool false]) w by kernel_rfl)
@[go_sem] theorem as_54_72 (u : TypeId) (v : Value) (w : World) : (Instr.typeAssert (.iface u v) 54 72 true).run Tryf.prog w = .ok (if u = 72 then .tuple #[v, .bool true] else .tuple #[.pointer none, .bool false]) w := by
  have e : (Instr.typeAssert (.iface u v) 54 72 true).run Tryf.prog w = (if u = 72 then (pure (Value.tuple #[v, .bool true]) : Sem Value) else (do pure (Value.tuple #[← zeroValue 72, .bool false]))).run Tryf.prog w := by kernel_rfl
  rw [e]
  by_cases h : u = 72
  · rw [if_pos h, if_pos h]; rfl
  · rw [if_neg h, if_neg h]
    exact (show (do pure (Value.tuple #[← zeroValue 72, .bool false]) : Sem Value).run Tryf.prog w = .ok (.tuple #[.pointer none, .bool false]) w by kernel_rfl)
@[go_sem] theorem as_54_215 (u : TypeId) (v : Value) (w : World) : (Instr.typeAssert (.iface u v) 54 173 true).run Tryf.prog w = .ok (if u = 173 then .tuple #[v, .bool true] else .tuple #[.pointer none, .bool false]) w := by
  have e : (Instr.typeAssert (.iface u v) 54 173 true).run Tryf.prog w = (if u = 173 then (pure (Value.tuple #[v, .bool true]) : Sem Value) else (do pure (Value.tuple #[← zeroValue 173, .bool false]))).run Tryf.prog w := by kernel_rfl
  rw [e]
  by_cases h : u = 173
  · rw [if_pos h, if_pos h]; rfl
  · rw [if_neg h, if_neg h]
    exact (show (do pure (Value.tuple #[← zeroValue 173, .bool false]) : Sem Value).run Tryf.prog w = .ok (.tuple #[.pointer none, .bool false]) w by kernel_rfl)
@[go_sem] theorem as_54_220 (u : TypeId) (v : Value) (w : World) : (Instr.typeAssert (.iface u v) 54 178 true).run Tryf.prog w = .ok (if u = 178 then .tuple #[v, .bool true] else .tuple #[.pointer none, .bool false]) w := by
  have e : (Instr.typeAssert (.iface u v) 54 178 true).run Tryf.prog w = (if u = 178 then (pure (Value.tuple #[v, .bool true]) : Sem Value) else (do pure (Value.tuple #[← zeroValue 178, .bool false]))).run Tryf.prog w := by kernel_rfl
  rw [e]
  by_cases h : u = 178
  · rw [if_pos h, if_pos h]; rfl
  · rw [if_neg h, if_neg h]
    exact (show (do pure (Value.tuple #[← zeroValue 178, .bool false]) : Sem Value).run Tryf.prog w = .ok (.tuple #[.pointer none, .bool false]) w by kernel_rfl)
@[go_sem] theorem as_54_227 (u : TypeId) (v : Value) (w : World) : (Instr.typeAssert (.iface u v) 54 189 true).run Tryf.prog w = .ok (if u = 189 then .tuple #[v, .bool true] else .tuple #[.pointer none, .bool false]) w := by
  have e : (Instr.typeAssert (.iface u v) 54 189 true).run Tryf.prog w = (if u = 189 then (pure (Value.tuple #[v, .bool true]) : Sem Value) else (do pure (Value.tuple #[← zeroValue 189, .bool false]))).run Tryf.prog w := by kernel_rfl
  rw [e]
  by_cases h : u = 189
  · rw [if_pos h, if_pos h]; rfl
  · rw [if_neg h, if_neg h]
    exact (show (do pure (Value.tuple #[← zeroValue 189, .bool false]) : Sem Value).run Tryf.prog w = .ok (.tuple #[.pointer none, .bool false]) w by kernel_rfl)
@[go_sem] theorem as_54_230 (u : TypeId) (v : Value) (w : World) : (Instr.typeAssert (.iface u v) 54 192 true).run Tryf.prog w = .ok (if u = 192 then .tuple #[v, .bool true] else .tuple #[.pointer none, .bool false]) w := by
  have e : (Instr.typeAssert (.iface u v) 54 192 true).run Tryf.prog w = (if u = 192 then (pure (Value.tuple #[v, .bool true]) : Sem Value) else (do pure (Value.tuple #[← zeroValue 192, .bool false]))).run Tryf.prog w := by kernel_rfl
  rw [e]
  by_cases h : u = 192
  · rw [if_pos h, if_pos h]; rfl
  · rw [if_neg h, if_neg h]
    exact (show (do pure (Value.tuple #[← zeroValue 192, .bool false]) : Sem Value).run Tryf.prog w = .ok (.tuple #[.pointer none, .bool false]) w by kernel_rfl)
@[go_sem] theorem as_54_233 (u : TypeId) (v : Value) (w : World) : (Instr.typeAssert (.iface u v) 54 195 true).run Tryf.prog w = .ok (if u = 195 then .tuple #[v, .bool true] else .tuple #[.pointer none, .bool false]) w := by
  have e : (Instr.typeAssert (.iface u v) 54 195 true).run Tryf.prog w = (if u = 195 then (pure (Value.tuple #[v, .bool true]) : Sem Value) else (do pure (Value.tuple #[← zeroValue 195, .bool false]))).run Tryf.prog w := by kernel_rfl
  rw [e]
  by_cases h : u = 195
  · rw [if_pos h, if_pos h]; rfl
  · rw [if_neg h, if_neg h]
    exact (show (do pure (Value.tuple #[← zeroValue 195, .bool false]) : Sem Value).run Tryf.prog w = .ok (.tuple #[.pointer none, .bool false]) w by kernel_rfl)
@[go_sem] theorem as_54_235 (u : TypeId) (v : Value) (w : World) : (Instr.typeAssert (.iface u v) 54 197 true).run Tryf.prog w = .ok (if u = 197 then .tuple #[v, .bool true] else .tuple #[.pointer none, .bool false]) w := by
  have e : (Instr.typeAssert (.iface u v) 54 197 true).run Tryf.prog w = (if u = 197 then (pure (Value.tuple #[v, .bool true]) : Sem Value) else (do pure (Value.tuple #[← zeroValue 197, .bool false]))).run Tryf.prog w := by kernel_rfl
  rw [e]
  by_cases h : u = 197
  · rw [if_pos h, if_pos h]; rfl
  · rw [if_neg h, if_neg h]
    exact (show (do pure (Value.tuple #[← zeroValue 197, .bool false]) : Sem Value).run Tryf.prog w = .ok (.tuple #[.pointer none, .bool false]) w by kernel_rfl)
@[go_sem] theorem as_54_238 (u : TypeId) (v : Value) (w : World) : (Instr.typeAssert (.iface u v) 54 200 true).run Tryf.prog w = .ok (if u = 200 then .tuple #[v, .bool true] else .tuple #[.pointer none, .bool false]) w := by
  have e : (Instr.typeAssert (.iface u v) 54 200 true).run Tryf.prog w = (if u = 200 then (pure (Value.tuple #[v, .bool true]) : Sem Value) else (do pure (Value.tuple #[← zeroValue 200, .bool false]))).run Tryf.prog w := by kernel_rfl
  rw [e]
  by_cases h : u = 200
  · rw [if_pos h, if_pos h]; rfl
  · rw [if_neg h, if_neg h]
    exact (show (do pure (Value.tuple #[← zeroValue 200, .bool false]) : Sem Value).run Tryf.prog w = .ok (.tuple #[.pointer none, .bool false]) w by kernel_rfl)
@[go_sem] theorem as_54_241 (u : TypeId) (v : Value) (w : World) : (Instr.typeAssert (.iface u v) 54 203 true).run Tryf.prog w = .ok (if u = 203 then .tuple #[v, .bool true] else .tuple #[.pointer none, .bool false]) w := by
  have e : (Instr.typeAssert (.iface u v) 54 203 true).run Tryf.prog w = (if u = 203 then (pure (Value.tuple #[v, .bool true]) : Sem Value) else (do pure (Value.tuple #[← zeroValue 203, .bool false]))).run Tryf.prog w := by kernel_rfl
  rw [e]
  by_cases h : u = 203
  · rw [if_pos h, if_pos h]; rfl
  · rw [if_neg h, if_neg h]
    exact (show (do pure (Value.tuple #[← zeroValue 203, .bool false]) : Sem Value).run Tryf.prog w = .ok (.tuple #[.pointer none, .bool false]) w by kernel_rfl)
@[go_sem] theorem as_54_57 (u : TypeId) (v : Value) (w : World) : (Instr.typeAssert (.iface u v) 54 57 true).run Tryf.prog w = .ok (if u = 57 then .tuple #[v, .bool true] else .tuple #[.pointer none, .bool false]) w := by
  have e : (Instr.typeAssert (.iface u v) 54 57 true).run Tryf.prog w = (if u = 57 then (pure (Value.tuple #[v, .bool true]) : Sem Value) else (do pure (Value.tuple #[← zeroValue 57, .bool false]))).run Tryf.prog w := by kernel_rfl
  rw [e]
  by_cases h : u = 57
  · rw [if_pos h, if_pos h]; rfl
  · rw [if_neg h, if_neg h]
    exact (show (do pure (Value.tuple #[← zeroValue 57, .bool false]) : Sem Value).run Tryf.prog w = .ok (.tuple #[.pointer none, .bool false]) w by kernel_rfl)

end Go.Proofs.YtegabjiaekfmbaaFmt
