/-
  Type assertions of clone, at any dynamic type.
-/
import Derived.Test.YtpcoeakcnmeblaaFmtProg
import Derived.WalkKit
namespace Go.Proofs.YtpcoeakcnmeblaaFmt
open Go

@[go_sem] theorem as_54_161 (u : TypeId) (v : Value) (w : World) : (Instr.typeAssert (.iface u v) 36 70 true).run Tryf.prog w = .ok (if u = 70 then .tuple #[v, .bool true] else .tuple #[.pointer none, .bool false]) w := by
  have e : (Instr.typeAssert (.iface u v) 36 70 true).run Tryf.prog w = (if u = 70 then (pure (Value.tuple #[v, .bool true]) : Sem Value) else (do pure (Value.tuple #[← zeroValue 70, .bool false]))).run Tryf.prog w := by kernel_rfl
  rw [e]
  by_cases h : u = 70
  · rw [if_pos h, if_pos h]; rfl
  · rw [if_neg h, if_neg h]
    exact (show (do pure (Value.tuple #[← zeroValue 70, .bool false]) : Sem Value).run Tryf.prog w = .ok (.tuple #[.pointer none, .bool false]) w by kernel_rfl)
@[go_sem] theorem as_54_169 (u : TypeId) (v : Value) (w : World) : (Instr.typeAssert (.iface u v) 36 80 true).run Tryf.prog w = .ok (if u = 80 then .tuple #[v, .bool true] else .tuple #[.pointer none, .bool false]) w := by
  have e : (Instr.typeAssert (.iface u v) 36 80 true).run Tryf.prog w = (if u = 80 then (pure (Value.tuple #[v, .bool true]) : Sem Value) else (do pure (Value.tuple #[← zeroValue 80, .bool false]))).run Tryf.prog w := by kernel_rfl
  rw [e]
  by_cases h : u = 80
  · rw [if_pos h, if_pos h]; rfl
  · rw [if_neg h, if_neg h]
    exact (show (do pure (Value.tuple #[← zeroValue 80, .bool false]) : Sem Value).run Tryf.prog w = .ok (.tuple #[.pointer none, .bool false]) w by kernel_rfl)
@[go_sem] theorem as_54_29 (u : TypeId) (v : Value) (w : World) : (Instr.typeAssert (.iface u v) 36 83 true).run Tryf.prog w = .ok (if u = 83 then .tuple #[v, .bool true] else .tuple #[.pointer none, .bool false]) w := by
  have e : (Instr.typeAssert (.iface u v) 36 83 true).run Tryf.prog w = (if u = 83 then (pure (Value.tuple #[v, .bool true]) : Sem Value) else (do pure (Value.tuple #[← zeroValue 83, .bool false]))).run Tryf.prog w := by kernel_rfl
  rw [e]
  by_cases h : u = 83
  · rw [if_pos h, if_pos h]; rfl
  · rw [if_neg h, if_neg h]
    exact (show (do pure (Value.tuple #[← zeroValue 83, .bool false]) : Sem Value).run Tryf.prog w = .ok (.tuple #[.pointer none, .bool false]) w by kernel_rfl)
@[go_sem] theorem as_54_172 (u : TypeId) (v : Value) (w : World) : (Instr.typeAssert (.iface u v) 36 86 true).run Tryf.prog w = .ok (if u = 86 then .tuple #[v, .bool true] else .tuple #[.pointer none, .bool false]) w := by
  have e : (Instr.typeAssert (.iface u v) 36 86 true).run Tryf.prog w = (if u = 86 then (pure (Value.tuple #[v, .bool true]) : Sem Value) else (do pure (Value.tuple #[← zeroValue 86, .bool false]))).run Tryf.prog w := by kernel_rfl
  rw [e]
  by_cases h : u = 86
  · rw [if_pos h, if_pos h]; rfl
  · rw [if_neg h, if_neg h]
    exact (show (do pure (Value.tuple #[← zeroValue 86, .bool false]) : Sem Value).run Tryf.prog w = .ok (.tuple #[.pointer none, .bool false]) w by kernel_rfl)
@[go_sem] theorem as_54_175 (u : TypeId) (v : Value) (w : World) : (Instr.typeAssert (.iface u v) 36 89 true).run Tryf.prog w = .ok (if u = 89 then .tuple #[v, .bool true] else .tuple #[.pointer none, .bool false]) w := by
  have e : (Instr.typeAssert (.iface u v) 36 89 true).run Tryf.prog w = (if u = 89 then (pure (Value.tuple #[v, .bool true]) : Sem Value) else (do pure (Value.tuple #[← zeroValue 89, .bool false]))).run Tryf.prog w := by kernel_rfl
  rw [e]
  by_cases h : u = 89
  · rw [if_pos h, if_pos h]; rfl
  · rw [if_neg h, if_neg h]
    exact (show (do pure (Value.tuple #[← zeroValue 89, .bool false]) : Sem Value).run Tryf.prog w = .ok (.tuple #[.pointer none, .bool false]) w by kernel_rfl)
@[go_sem] theorem as_54_138 (u : TypeId) (v : Value) (w : World) : (Instr.typeAssert (.iface u v) 36 92 true).run Tryf.prog w = .ok (if u = 92 then .tuple #[v, .bool true] else .tuple #[.pointer none, .bool false]) w := by
  have e : (Instr.typeAssert (.iface u v) 36 92 true).run Tryf.prog w = (if u = 92 then (pure (Value.tuple #[v, .bool true]) : Sem Value) else (do pure (Value.tuple #[← zeroValue 92, .bool false]))).run Tryf.prog w := by kernel_rfl
  rw [e]
  by_cases h : u = 92
  · rw [if_pos h, if_pos h]; rfl
  · rw [if_neg h, if_neg h]
    exact (show (do pure (Value.tuple #[← zeroValue 92, .bool false]) : Sem Value).run Tryf.prog w = .ok (.tuple #[.pointer none, .bool false]) w by kernel_rfl)
@[go_sem] theorem as_54_178 (u : TypeId) (v : Value) (w : World) : (Instr.typeAssert (.iface u v) 36 96 true).run Tryf.prog w = .ok (if u = 96 then .tuple #[v, .bool true] else .tuple #[.pointer none, .bool false]) w := by
  have e : (Instr.typeAssert (.iface u v) 36 96 true).run Tryf.prog w = (if u = 96 then (pure (Value.tuple #[v, .bool true]) : Sem Value) else (do pure (Value.tuple #[← zeroValue 96, .bool false]))).run Tryf.prog w := by kernel_rfl
  rw [e]
  by_cases h : u = 96
  · rw [if_pos h, if_pos h]; rfl
  · rw [if_neg h, if_neg h]
    exact (show (do pure (Value.tuple #[← zeroValue 96, .bool false]) : Sem Value).run Tryf.prog w = .ok (.tuple #[.pointer none, .bool false]) w by kernel_rfl)
@[go_sem] theorem as_54_181 (u : TypeId) (v : Value) (w : World) : (Instr.typeAssert (.iface u v) 36 99 true).run Tryf.prog w = .ok (if u = 99 then .tuple #[v, .bool true] else .tuple #[.pointer none, .bool false]) w := by
  have e : (Instr.typeAssert (.iface u v) 36 99 true).run Tryf.prog w = (if u = 99 then (pure (Value.tuple #[v, .bool true]) : Sem Value) else (do pure (Value.tuple #[← zeroValue 99, .bool false]))).run Tryf.prog w := by kernel_rfl
  rw [e]
  by_cases h : u = 99
  · rw [if_pos h, if_pos h]; rfl
  · rw [if_neg h, if_neg h]
    exact (show (do pure (Value.tuple #[← zeroValue 99, .bool false]) : Sem Value).run Tryf.prog w = .ok (.tuple #[.pointer none, .bool false]) w by kernel_rfl)
@[go_sem] theorem as_54_184 (u : TypeId) (v : Value) (w : World) : (Instr.typeAssert (.iface u v) 36 102 true).run Tryf.prog w = .ok (if u = 102 then .tuple #[v, .bool true] else .tuple #[.pointer none, .bool false]) w := by
  have e : (Instr.typeAssert (.iface u v) 36 102 true).run Tryf.prog w = (if u = 102 then (pure (Value.tuple #[v, .bool true]) : Sem Value) else (do pure (Value.tuple #[← zeroValue 102, .bool false]))).run Tryf.prog w := by kernel_rfl
  rw [e]
  by_cases h : u = 102
  · rw [if_pos h, if_pos h]; rfl
  · rw [if_neg h, if_neg h]
    exact (show (do pure (Value.tuple #[← zeroValue 102, .bool false]) : Sem Value).run Tryf.prog w = .ok (.tuple #[.pointer none, .bool false]) w by kernel_rfl)
@[go_sem] theorem as_54_69 (u : TypeId) (v : Value) (w : World) : (Instr.typeAssert (.iface u v) 36 105 true).run Tryf.prog w = .ok (if u = 105 then .tuple #[v, .bool true] else .tuple #[.pointer none, .bool false]) w := by
  have e : (Instr.typeAssert (.iface u v) 36 105 true).run Tryf.prog w = (if u = 105 then (pure (Value.tuple #[v, .bool true]) : Sem Value) else (do pure (Value.tuple #[← zeroValue 105, .bool false]))).run Tryf.prog w := by kernel_rfl
  rw [e]
  by_cases h : u = 105
  · rw [if_pos h, if_pos h]; rfl
  · rw [if_neg h, if_neg h]
    exact (show (do pure (Value.tuple #[← zeroValue 105, .bool false]) : Sem Value).run Tryf.prog w = .ok (.tuple #[.pointer none, .bool false]) w by kernel_rfl)
@[go_sem] theorem as_54_187 (u : TypeId) (v : Value) (w : World) : (Instr.typeAssert (.iface u v) 36 111 true).run Tryf.prog w = .ok (if u = 111 then .tuple #[v, .bool true] else .tuple #[.pointer none, .bool false]) w := by
  have e : (Instr.typeAssert (.iface u v) 36 111 true).run Tryf.prog w = (if u = 111 then (pure (Value.tuple #[v, .bool true]) : Sem Value) else (do pure (Value.tuple #[← zeroValue 111, .bool false]))).run Tryf.prog w := by kernel_rfl
  rw [e]
  by_cases h : u = 111
  · rw [if_pos h, if_pos h]; rfl
  · rw [if_neg h, if_neg h]
    exact (show (do pure (Value.tuple #[← zeroValue 111, .bool false]) : Sem Value).run Tryf.prog w = .ok (.tuple #[.pointer none, .bool false]) w by kernel_rfl)
@[go_sem] theorem as_54_190 (u : TypeId) (v : Value) (w : World) : (Instr.typeAssert (.iface u v) 36 118 true).run Tryf.prog w = .ok (if u = 118 then .tuple #[v, .bool true] else .tuple #[.pointer none, .bool false]) w := by
  have e : (Instr.typeAssert (.iface u v) 36 118 true).run Tryf.prog w = (if u = 118 then (pure (Value.tuple #[v, .bool true]) : Sem Value) else (do pure (Value.tuple #[← zeroValue 118, .bool false]))).run Tryf.prog w := by kernel_rfl
  rw [e]
  by_cases h : u = 118
  · rw [if_pos h, if_pos h]; rfl
  · rw [if_neg h, if_neg h]
    exact (show (do pure (Value.tuple #[← zeroValue 118, .bool false]) : Sem Value).run Tryf.prog w = .ok (.tuple #[.pointer none, .bool false]) w by kernel_rfl)
@[go_sem] theorem as_54_192 (u : TypeId) (v : Value) (w : World) : (Instr.typeAssert (.iface u v) 36 120 true).run Tryf.prog w = .ok (if u = 120 then .tuple #[v, .bool true] else .tuple #[.pointer none, .bool false]) w := by
  have e : (Instr.typeAssert (.iface u v) 36 120 true).run Tryf.prog w = (if u = 120 then (pure (Value.tuple #[v, .bool true]) : Sem Value) else (do pure (Value.tuple #[← zeroValue 120, .bool false]))).run Tryf.prog w := by kernel_rfl
  rw [e]
  by_cases h : u = 120
  · rw [if_pos h, if_pos h]; rfl
  · rw [if_neg h, if_neg h]
    exact (show (do pure (Value.tuple #[← zeroValue 120, .bool false]) : Sem Value).run Tryf.prog w = .ok (.tuple #[.pointer none, .bool false]) w by kernel_rfl)
@[go_sem] theorem as_54_194 (u : TypeId) (v : Value) (w : World) : (Instr.typeAssert (.iface u v) 36 122 true).run Tryf.prog w = .ok (if u = 122 then .tuple #[v, .bool true] else .tuple #[.pointer none, .bool false]) w := by
  have e : (Instr.typeAssert (.iface u v) 36 122 true).run Tryf.prog w = (if u = 122 then (pure (Value.tuple #[v, .bool true]) : Sem Value) else (do pure (Value.tuple #[← zeroValue 122, .bool false]))).run Tryf.prog w := by kernel_rfl
  rw [e]
  by_cases h : u = 122
  · rw [if_pos h, if_pos h]; rfl
  · rw [if_neg h, if_neg h]
    exact (show (do pure (Value.tuple #[← zeroValue 122, .bool false]) : Sem Value).run Tryf.prog w = .ok (.tuple #[.pointer none, .bool false]) w by kernel_rfl)
@[go_sem] theorem as_54_197 (u : TypeId) (v : Value) (w : World) : (Instr.typeAssert (.iface u v) 36 125 true).run Tryf.prog w = .ok (if u = 125 then .tuple #[v, .bool true] else .tuple #[.pointer none, .bool false]) w := by
  have e : (Instr.typeAssert (.iface u v) 36 125 true).run Tryf.prog w = (if u = 125 then (pure (Value.tuple #[v, .bool true]) : Sem Value) else (do pure (Value.tuple #[← zeroValue 125, .bool false]))).run Tryf.prog w := by kernel_rfl
  rw [e]
  by_cases h : u = 125
  · rw [if_pos h, if_pos h]; rfl
  · rw [if_neg h, if_neg h]
    exact (show (do pure (Value.tuple #[← zeroValue 125, .bool false]) : Sem Value).run Tryf.prog w = .ok (.tuple #[.pointer none, .bool false]) w by kernel_rfl)
@[go_sem] theorem as_54_200 (u : TypeId) (v : Value) (w : World) : (Instr.typeAssert (.iface u v) 36 128 true).run Tryf.prog w = .ok (if u = 128 then .tuple #[v, .bool true] else .tuple #[.pointer none, .bool false]) w := by
  have e : (Instr.typeAssert (.iface u v) 36 128 true).run Tryf.prog w = (if u = 128 then (pure (Value.tuple #[v, .bool true]) : Sem Value) else (do pure (Value.tuple #[← zeroValue 128, .bool false]))).run Tryf.prog w := by kernel_rfl
  rw [e]
  by_cases h : u = 128
  · rw [if_pos h, if_pos h]; rfl
  · rw [if_neg h, if_neg h]
    exact (show (do pure (Value.tuple #[← zeroValue 128, .bool false]) : Sem Value).run Tryf.prog w = .ok (.tuple #[.pointer none, .bool false]) w by kernel_rfl)
@[go_sem] theorem asf_54_69 (v : Value) (w : World) : (Instr.typeAssert (.iface 105 v) 36 105 false).run Tryf.prog w = .ok v w := by kernel_rfl
@[go_sem] theorem as_54_207 (u : TypeId) (v : Value) (w : World) : (Instr.typeAssert (.iface u v) 36 136 true).run Tryf.prog w = .ok (if u = 136 then .tuple #[v, .bool true] else .tuple #[.pointer none, .bool false]) w := by
  have e : (Instr.typeAssert (.iface u v) 36 136 true).run Tryf.prog w = (if u = 136 then (pure (Value.tuple #[v, .bool true]) : Sem Value) else (do pure (Value.tuple #[← zeroValue 136, .bool false]))).run Tryf.prog w := by kernel_rfl
  rw [e]
  by_cases h : u = 136
  · rw [if_pos h, if_pos h]; rfl
  · rw [if_neg h, if_neg h]
    exact (show (do pure (Value.tuple #[← zeroValue 136, .bool false]) : Sem Value).run Tryf.prog w = .ok (.tuple #[.pointer none, .bool false]) w by kernel_rfl)
@[go_sem] theorem as_54_210 (u : TypeId) (v : Value) (w : World) : (Instr.typeAssert (.iface u v) 36 139 true).run Tryf.prog w = .ok (if u = 139 then .tuple #[v, .bool true] else .tuple #[.pointer none, .bool false]) w := by
  have e : (Instr.typeAssert (.iface u v) 36 139 true).run Tryf.prog w = (if u = 139 then (pure (Value.tuple #[v, .bool true]) : Sem Value) else (do pure (Value.tuple #[← zeroValue 139, .bool false]))).run Tryf.prog w := by kernel_rfl
  rw [e]
  by_cases h : u = 139
  · rw [if_pos h, if_pos h]; rfl
  · rw [if_neg h, if_neg h]
    exact (show (do pure (Value.tuple #[← zeroValue 139, .bool false]) : Sem Value).run Tryf.prog w = .ok (.tuple #[.pointer none, .bool false]) w by kernel_rfl)
@[go_sem] theorem as_54_212 (u : TypeId) (v : Value) (w : World) : (Instr.typeAssert (.iface u v) 36 141 true).run Tryf.prog w = .ok (if u = 141 then .tuple #[v, .bool true] else .tuple #[.pointer none, .bool false]) w := by
  have e : (Instr.typeAssert (.iface u v) 36 141 true).run Tryf.prog w = (if u = 141 then (pure (Value.tuple #[v, .bool true]) : Sem Value) else (do pure (Value.tuple #[← zeroValue 141, .bool false]))).run Tryf.prog w := by kernel_rfl
  rw [e]
  by_cases h : u = 141
  · rw [if_pos h, if_pos h]; rfl
  · rw [if_neg h, if_neg h]
    exact (show (do pure (Value.tuple #[← zeroValue 141, .bool false]) : Sem Value).run Tryf.prog w = .ok (.tuple #[.pointer none, .bool false]) w by kernel_rfl)
@[go_sem] theorem as_54_72 (u : TypeId) (v : Value) (w : World) : (Instr.typeAssert (.iface u v) 36 112 true).run Tryf.prog w = .ok (if u = 112 then .tuple #[v, .bool true] else .tuple #[.pointer none, .bool false]) w := by
  have e : (Instr.typeAssert (.iface u v) 36 112 true).run Tryf.prog w = (if u = 112 then (pure (Value.tuple #[v, .bool true]) : Sem Value) else (do pure (Value.tuple #[← zeroValue 112, .bool false]))).run Tryf.prog w := by kernel_rfl
  rw [e]
  by_cases h : u = 112
  · rw [if_pos h, if_pos h]; rfl
  · rw [if_neg h, if_neg h]
    exact (show (do pure (Value.tuple #[← zeroValue 112, .bool false]) : Sem Value).run Tryf.prog w = .ok (.tuple #[.pointer none, .bool false]) w by kernel_rfl)
@[go_sem] theorem as_54_215 (u : TypeId) (v : Value) (w : World) : (Instr.typeAssert (.iface u v) 36 144 true).run Tryf.prog w = .ok (if u = 144 then .tuple #[v, .bool true] else .tuple #[.pointer none, .bool false]) w := by
  have e : (Instr.typeAssert (.iface u v) 36 144 true).run Tryf.prog w = (if u = 144 then (pure (Value.tuple #[v, .bool true]) : Sem Value) else (do pure (Value.tuple #[← zeroValue 144, .bool false]))).run Tryf.prog w := by kernel_rfl
  rw [e]
  by_cases h : u = 144
  · rw [if_pos h, if_pos h]; rfl
  · rw [if_neg h, if_neg h]
    exact (show (do pure (Value.tuple #[← zeroValue 144, .bool false]) : Sem Value).run Tryf.prog w = .ok (.tuple #[.pointer none, .bool false]) w by kernel_rfl)
@[go_sem] theorem as_54_220 (u : TypeId) (v : Value) (w : World) : (Instr.typeAssert (.iface u v) 36 155 true).run Tryf.prog w = .ok (if u = 155 then .tuple #[v, .bool true] else .tuple #[.pointer none, .bool false]) w := by
  have e : (Instr.typeAssert (.iface u v) 36 155 true).run Tryf.prog w = (if u = 155 then (pure (Value.tuple #[v, .bool true]) : Sem Value) else (do pure (Value.tuple #[← zeroValue 155, .bool false]))).run Tryf.prog w := by kernel_rfl
  rw [e]
  by_cases h : u = 155
  · rw [if_pos h, if_pos h]; rfl
  · rw [if_neg h, if_neg h]
    exact (show (do pure (Value.tuple #[← zeroValue 155, .bool false]) : Sem Value).run Tryf.prog w = .ok (.tuple #[.pointer none, .bool false]) w by kernel_rfl)
@[go_sem] theorem as_54_227 (u : TypeId) (v : Value) (w : World) : (Instr.typeAssert (.iface u v) 36 166 true).run Tryf.prog w = .ok (if u = 166 then .tuple #[v, .bool true] else .tuple #[.pointer none, .bool false]) w := by
  have e : (Instr.typeAssert (.iface u v) 36 166 true).run Tryf.prog w = (if u = 166 then (pure (Value.tuple #[v, .bool true]) : Sem Value) else (do pure (Value.tuple #[← zeroValue 166, .bool false]))).run Tryf.prog w := by kernel_rfl
  rw [e]
  by_cases h : u = 166
  · rw [if_pos h, if_pos h]; rfl
  · rw [if_neg h, if_neg h]
    exact (show (do pure (Value.tuple #[← zeroValue 166, .bool false]) : Sem Value).run Tryf.prog w = .ok (.tuple #[.pointer none, .bool false]) w by kernel_rfl)
@[go_sem] theorem as_54_230 (u : TypeId) (v : Value) (w : World) : (Instr.typeAssert (.iface u v) 36 169 true).run Tryf.prog w = .ok (if u = 169 then .tuple #[v, .bool true] else .tuple #[.pointer none, .bool false]) w := by
  have e : (Instr.typeAssert (.iface u v) 36 169 true).run Tryf.prog w = (if u = 169 then (pure (Value.tuple #[v, .bool true]) : Sem Value) else (do pure (Value.tuple #[← zeroValue 169, .bool false]))).run Tryf.prog w := by kernel_rfl
  rw [e]
  by_cases h : u = 169
  · rw [if_pos h, if_pos h]; rfl
  · rw [if_neg h, if_neg h]
    exact (show (do pure (Value.tuple #[← zeroValue 169, .bool false]) : Sem Value).run Tryf.prog w = .ok (.tuple #[.pointer none, .bool false]) w by kernel_rfl)
@[go_sem] theorem as_54_233 (u : TypeId) (v : Value) (w : World) : (Instr.typeAssert (.iface u v) 36 172 true).run Tryf.prog w = .ok (if u = 172 then .tuple #[v, .bool true] else .tuple #[.pointer none, .bool false]) w := by
  have e : (Instr.typeAssert (.iface u v) 36 172 true).run Tryf.prog w = (if u = 172 then (pure (Value.tuple #[v, .bool true]) : Sem Value) else (do pure (Value.tuple #[← zeroValue 172, .bool false]))).run Tryf.prog w := by kernel_rfl
  rw [e]
  by_cases h : u = 172
  · rw [if_pos h, if_pos h]; rfl
  · rw [if_neg h, if_neg h]
    exact (show (do pure (Value.tuple #[← zeroValue 172, .bool false]) : Sem Value).run Tryf.prog w = .ok (.tuple #[.pointer none, .bool false]) w by kernel_rfl)
@[go_sem] theorem as_54_235 (u : TypeId) (v : Value) (w : World) : (Instr.typeAssert (.iface u v) 36 174 true).run Tryf.prog w = .ok (if u = 174 then .tuple #[v, .bool true] else .tuple #[.pointer none, .bool false]) w := by
  have e : (Instr.typeAssert (.iface u v) 36 174 true).run Tryf.prog w = (if u = 174 then (pure (Value.tuple #[v, .bool true]) : Sem Value) else (do pure (Value.tuple #[← zeroValue 174, .bool false]))).run Tryf.prog w := by kernel_rfl
  rw [e]
  by_cases h : u = 174
  · rw [if_pos h, if_pos h]; rfl
  · rw [if_neg h, if_neg h]
    exact (show (do pure (Value.tuple #[← zeroValue 174, .bool false]) : Sem Value).run Tryf.prog w = .ok (.tuple #[.pointer none, .bool false]) w by kernel_rfl)
@[go_sem] theorem as_54_238 (u : TypeId) (v : Value) (w : World) : (Instr.typeAssert (.iface u v) 36 177 true).run Tryf.prog w = .ok (if u = 177 then .tuple #[v, .bool true] else .tuple #[.pointer none, .bool false]) w := by
  have e : (Instr.typeAssert (.iface u v) 36 177 true).run Tryf.prog w = (if u = 177 then (pure (Value.tuple #[v, .bool true]) : Sem Value) else (do pure (Value.tuple #[← zeroValue 177, .bool false]))).run Tryf.prog w := by kernel_rfl
  rw [e]
  by_cases h : u = 177
  · rw [if_pos h, if_pos h]; rfl
  · rw [if_neg h, if_neg h]
    exact (show (do pure (Value.tuple #[← zeroValue 177, .bool false]) : Sem Value).run Tryf.prog w = .ok (.tuple #[.pointer none, .bool false]) w by kernel_rfl)
@[go_sem] theorem as_54_241 (u : TypeId) (v : Value) (w : World) : (Instr.typeAssert (.iface u v) 36 180 true).run Tryf.prog w = .ok (if u = 180 then .tuple #[v, .bool true] else .tuple #[.pointer none, .bool false]) w := by
  have e : (Instr.typeAssert (.iface u v) 36 180 true).run Tryf.prog w = (if u = 180 then (pure (Value.tuple #[v, .bool true]) : Sem Value) else (do pure (Value.tuple #[← zeroValue 180, .bool false]))).run Tryf.prog w := by kernel_rfl
  rw [e]
  by_cases h : u = 180
  · rw [if_pos h, if_pos h]; rfl
  · rw [if_neg h, if_neg h]
    exact (show (do pure (Value.tuple #[← zeroValue 180, .bool false]) : Sem Value).run Tryf.prog w = .ok (.tuple #[.pointer none, .bool false]) w by kernel_rfl)
@[go_sem] theorem as_54_57 (u : TypeId) (v : Value) (w : World) : (Instr.typeAssert (.iface u v) 36 47 true).run Tryf.prog w = .ok (if u = 47 then .tuple #[v, .bool true] else .tuple #[.pointer none, .bool false]) w := by
  have e : (Instr.typeAssert (.iface u v) 36 47 true).run Tryf.prog w = (if u = 47 then (pure (Value.tuple #[v, .bool true]) : Sem Value) else (do pure (Value.tuple #[← zeroValue 47, .bool false]))).run Tryf.prog w := by kernel_rfl
  rw [e]
  by_cases h : u = 47
  · rw [if_pos h, if_pos h]; rfl
  · rw [if_neg h, if_neg h]
    exact (show (do pure (Value.tuple #[← zeroValue 47, .bool false]) : Sem Value).run Tryf.prog w = .ok (.tuple #[.pointer none, .bool false]) w by kernel_rfl)

end Go.Proofs.YtpcoeakcnmeblaaFmt
