/-
  NodeBase's methods at any address; cloneNodeBase: a fresh context and a fresh, non-nil list of free variables.
-/
import Derived.Test.YtpcoeakcnmeblaaFmtStrs
import Derived.Deep.RegionLaw
import Derived.Deep.AppendLies
import Derived.Deep.DrawnRows
import Derived.Deep.RegionHeld3
import Derived.StillTailTactics
import Derived.OwnWalk
import Derived.WalkSpells
import Derived.Laws.AppendOwnNone
namespace Go.Proofs.YtpcoeakcnmeblaaFmt
open Go Go.RowKit

/-- Every old block but those of S stays as it was. -/
structure Kept (S : Nat → Prop) (w w' : World) : Prop where
  os : w'.os = w.os
  tape : w'.tape = w.tape
  output : w'.output = w.output
  size : w.heap.size ≤ w'.heap.size
  block : ∀ k, k < w.heap.size → ¬ S k → w'.heap[k]? = w.heap[k]?
theorem Kept.refl (S : Nat → Prop) (w : World) : Kept S w w := ⟨rfl, rfl, rfl, Nat.le_refl _, fun _ _ _ => rfl⟩
theorem Kept.trans {S : Nat → Prop} {a b c : World} (h : Kept S a b) (k : Kept S b c) : Kept S a c :=
  ⟨k.os.trans h.os, k.tape.trans h.tape, k.output.trans h.output, Nat.le_trans h.size k.size, fun i hi hS => (k.block i (Nat.lt_of_lt_of_le hi h.size) hS).trans (h.block i hi hS)⟩
theorem Kept.mono {S T : Nat → Prop} {a b : World} (h : Kept S a b) (hST : ∀ k, k < a.heap.size → S k → T k) : Kept T a b :=
  ⟨h.os, h.tape, h.output, h.size, fun i hi hT => h.block i hi fun hS => hT (hST i hi hS)⟩
theorem Kept.ofGrown {S : Nat → Prop} {a b : World} {r : Option Nat} (h : a.grownBy b r) (hr : ∀ k, k < a.heap.size → r = some k → S k) : Kept S a b :=
  ⟨h.os, h.tape, h.output, h.size, fun i hi hS => h.block i hi fun e => hS (hr i hi e.symm)⟩
theorem Kept.ofBelow {S : Nat → Prop} {a b : World} (h : Below a.heap.size a b) : Kept S a b :=
  ⟨h.os, h.tape, h.output, h.size, fun i hi _ => h.block i hi⟩
theorem Kept.below {S : Nat → Prop} {a b : World} {B : Nat} (h : Kept S a b) (hB : ∀ k, S k → B ≤ k) (hs : B ≤ a.heap.size) : Below B a b :=
  ⟨h.os, h.tape, h.output, h.size, fun i hi => h.block i (by omega) fun hS => by have := hB i hS; omega⟩
theorem Kept.setCell (w : World) (p : Addr) (v : Value) : Kept (fun i => i = p.block) w (w.setCell p v) := ⟨rfl, rfl, rfl, by simp [World.setCell], fun i _ hS => Below.heap_setCell w p v i hS⟩
theorem ownsRow_blocks {w w' : World} {B : Nat} {e : TypeId} {size : Nat} {v : Value} {n : Nat} {xs : List Value} (h : w.ownsRow B e size v n xs) (hb : ∀ k, v.ownBlock = some k → k < w.heap.size → w'.heap[k]? = w.heap[k]?) : w'.ownsRow B e size v n xs :=
  ownsRow_same h fun g hg => by
    obtain ⟨c, fz, hc⟩ := Lib.ownsRow_kind h g hg
    exact hb g hg (Array.getElem?_eq_some_iff.1 hc).1

theorem drew_below {B : Nat} {a w : World} (h : Below B a w) : Below B a w.drew := ⟨h.os, h.tape, h.output, h.size, h.block⟩
theorem frozen_of {w : World} {b : Nat} {C : Array Value} {t : TypeId} (h : w.heap[b]? = some (.cells C t (0, 0))) (i : Nat) : w.frozen? ⟨b, i, none⟩ = false := by simp [World.frozen?, h]
theorem infoId : (Tryf.prog.info? 37).map (fun i => (i.zero, i.size, i.bytes)) = some (some (.string ⟨#[]⟩), 1, 16) := by kernel_rfl

theorem nbContext (b k : Nat) (v : Value) (w : World) (hc : w.cell? ⟨b, k + 1, none⟩ = some v) :
    Calls Tryf.prog 36 #[.pointer (some ⟨b, k, none⟩)] w fun e w' => e = .returned v ∧ w = w' := by
  go_enter Tryf.func36, Tryf.ntmps36
  go_wp2
  go_ret
  exact ⟨rfl, rfl⟩
theorem nbFree (b k : Nat) (v : Value) (w : World) (hc : w.cell? ⟨b, k + 2, none⟩ = some v) :
    Calls Tryf.prog 37 #[.pointer (some ⟨b, k, none⟩)] w fun e w' => e = .returned v ∧ w = w' := by
  go_enter Tryf.func37, Tryf.ntmps37
  go_wp2
  go_ret
  exact ⟨rfl, rfl⟩
theorem nbSetContext (b k : Nat) (a : Option Addr) (v0 : Value) (w : World) (hc : w.cell? ⟨b, k + 1, none⟩ = some v0) (hf : w.frozen? ⟨b, k + 1, none⟩ = false) :
    Calls Tryf.prog 40 #[.pointer (some ⟨b, k, none⟩), .pointer a] w fun e w' => e = .returned (.tuple #[]) ∧ w.setCell ⟨b, k + 1, none⟩ (.pointer a) = w' := by
  go_enter Tryf.func40, Tryf.ntmps40
  go_wp2
  go_end0
  exact ⟨rfl, rfl⟩
theorem nbSetFree (b k : Nat) (a : Option Addr) (n c : Nat) (v0 : Value) (w : World) (hc : w.cell? ⟨b, k + 2, none⟩ = some v0) (hf : w.frozen? ⟨b, k + 2, none⟩ = false) :
    Calls Tryf.prog 41 #[.pointer (some ⟨b, k, none⟩), .slice a n c] w fun e w' => e = .returned (.tuple #[]) ∧ w.setCell ⟨b, k + 2, none⟩ (.slice a n c) = w' := by
  go_enter Tryf.func41, Tryf.ntmps41
  go_wp2
  go_end0
  exact ⟨rfl, rfl⟩

/-- What interface look-ups answer at a node of dynamic type T whose NodeBase lies k cells behind its head. -/
structure NodeT (T : TypeId) (k : Nat) : Prop where
  ctx : ∀ b w, (method 318 T (.pointer (some ⟨b, 0, none⟩)) "Context").run Tryf.prog w = .ok (36, .pointer (some ⟨b, k, none⟩)) w
  free : ∀ b w, (method 318 T (.pointer (some ⟨b, 0, none⟩)) "FreeVariables").run Tryf.prog w = .ok (37, .pointer (some ⟨b, k, none⟩)) w
  sctx : ∀ b w, (method 318 T (.pointer (some ⟨b, 0, none⟩)) "SetContext").run Tryf.prog w = .ok (40, .pointer (some ⟨b, k, none⟩)) w
  sfree : ∀ b w, (method 318 T (.pointer (some ⟨b, 0, none⟩)) "SetFreeVariables").run Tryf.prog w = .ok (41, .pointer (some ⟨b, k, none⟩)) w
  nsctx : ∀ b w, (nilAhead 318 T (.pointer (some ⟨b, 0, none⟩)) "SetContext").run Tryf.prog w = .ok (some false) w
  nsfree : ∀ b w, (nilAhead 318 T (.pointer (some ⟨b, 0, none⟩)) "SetFreeVariables").run Tryf.prog w = .ok (some false) w
theorem nodeVar : NodeT 47 1 := ⟨fun _ _ => by kernel_rfl, fun _ _ => by kernel_rfl, fun _ _ => by kernel_rfl, fun _ _ => by kernel_rfl, fun _ _ => by kernel_rfl, fun _ _ => by kernel_rfl⟩
theorem nodeLit : NodeT 112 3 := ⟨fun _ _ => by kernel_rfl, fun _ _ => by kernel_rfl, fun _ _ => by kernel_rfl, fun _ _ => by kernel_rfl, fun _ _ => by kernel_rfl, fun _ _ => by kernel_rfl⟩

/-- A list of free variables in new memory. -/
def FvNew (B : Nat) (w : World) (v : Value) (zs : List ByteArray) : Prop := ∃ g cap, v = .slice (some ⟨g, 0, none⟩) zs.length cap ∧ B ≤ g ∧ w.ownsRow B 37 1 v zs.length (zs.map Value.string)
/-- A context, and one in new memory. -/
def CtxIs (w : World) (a : Option Addr) : Option ByteArray → Prop
  | none => a = none
  | some t => ∃ g, a = some ⟨g, 0, none⟩ ∧ w.cell? ⟨g, 0, none⟩ = some (.string t)
def CtxNew (B : Nat) (w : World) (a : Option Addr) : Option ByteArray → Prop
  | none => a = none
  | some t => ∃ g, B ≤ g ∧ a = some ⟨g, 0, none⟩ ∧ w.heap[g]? = some (.cells #[.string t] 9 (0, 0))

def NBPost (b k : Nat) (C : Array Value) (T : TypeId) (zs : List ByteArray) (c : Option ByteArray) (w : World) (e : Ending) (w' : World) : Prop :=
  e = .returned (.tuple #[]) ∧ ∃ ca fv, w'.heap[b]? = some (.cells ((C.setIfInBounds (k + 1) (.pointer ca)).setIfInBounds (k + 2) fv) T (0, 0)) ∧ CtxNew w.heap.size w' ca c ∧ FvNew w.heap.size w' fv zs ∧ Kept (fun i => i = b) w w'

theorem run_append_strs (w : World) (base : Nat) (ty : TypeId) (g0 : Nat) (hown : w.ownsRow base 37 1 (.slice (some ⟨g0, 0, none⟩) 0 0) 0 []) (B : Nat) (va : Option Addr) (n vc : Nat) (zs : List ByteArray) (hz : StrsAt w B (.slice va n vc) zs) (hn : zs.length = n) (hn2 : n ≤ 1048576) (hbase : base ≤ w.heap.size) :
    ∃ v' w', (Builtin.append_ #[50, 50] ty #[.slice (some ⟨g0, 0, none⟩) 0 0, .slice va n vc]).run Tryf.prog w = .ok v' w' ∧ FvNew base w' v' zs ∧ w.grownBy w' (some g0) := by
  obtain ⟨i0, hi, hz0, hz1, hz2⟩ := info_parts infoId
  have key : ∀ (ad : Addr) (c : Nat), (∀ j, j < n → w.cell? (ad.add j) = some (.string (zs.getD j ByteArray.empty))) →
      ∃ v' w', (Builtin.append_ #[50, 50] ty #[.slice (some ⟨g0, 0, none⟩) 0 0, .slice (some ad) n c]).run Tryf.prog w = .ok v' w' ∧ FvNew base w' v' zs ∧ w.grownBy w' (some g0) := by
    intro ad c hc
    obtain ⟨v', w', h1, h2, h3, h4⟩ := run_append_own (P := Tryf.prog) (w := w) base 50 ty 37 i0 (.string ⟨#[]⟩) 1 16 Tryf.underlying50 hi hz0 hz1 hz2 rfl (by decide) (.slice (some ⟨g0, 0, none⟩) 0 0) 0 [] hown ad n c (zs.map Value.string) (by rw [List.length_map]; omega)
      (fun j u hu => by
        rw [List.getElem?_map] at hu
        have hj : j < zs.length := by
          rcases Nat.lt_or_ge j zs.length with h | h
          · exact h
          · rw [List.getElem?_eq_none h] at hu; cases hu
        rw [hc j (by omega)]
        rw [List.getElem?_eq_getElem hj] at hu
        simpa [List.getD, List.getElem?_eq_getElem hj] using hu) (fun u hu => by obtain ⟨x, _, rfl⟩ := List.mem_map.1 hu; rfl) (by unfold maxLen; omega) (by omega) hbase
    refine ⟨v', w', h1, ?_, h3⟩
    rw [Nat.zero_add, List.nil_append] at h2
    rcases h2.2 with ⟨hv, _⟩ | ⟨g, cap, cur, rfl, hb, _⟩
    · have := (h4.1 hv).1
      cases this
    · rw [← hn] at h2
      exact ⟨g, cap, by rw [hn], hb, by rw [← hn]; exact h2⟩
  cases hz with
  | isNil =>
    refine ⟨_, w, run_append_owned_none (P := Tryf.prog) (w := w) base 50 ty 37 i0 1 Tryf.underlying50 hi _ _ _ hown, ⟨g0, 0, rfl, ?_, hown⟩, World.grownBy.refl w _⟩
    rcases hown.2 with ⟨hv, _⟩ | ⟨g, cap, cur, hv, hb, _⟩
    · cases hv
    · cases hv; exact hb
  | isAt b off cap zs hb' hm hc => exact key ⟨b, off, none⟩ vc (fun j hj => by rw [Lib.addr_add]; exact hc j hj)
  | isBare a cap => exact key a vc (fun j hj => absurd hj (by omega))

theorem step_append_strs {ops : Array Oper} {o : Oper} {a : Act} {w : World} {K : Act → World → Prop} {Q : Exit → Act → World → Prop} {E : Prop} (hgd : o.guard = none) (s x : Operand)
    (ho : o.op = .call { callee := .builtin .append, args := #[s, x], argTypes := #[50, 50] }) (base g0 : Nat) (hs : a.eval s = .slice (some ⟨g0, 0, none⟩) 0 0) (hown : w.ownsRow base 37 1 (.slice (some ⟨g0, 0, none⟩) 0 0) 0 []) (B : Nat) (va : Option Addr) (n vc : Nat) (zs : List ByteArray) (hx : a.eval x = .slice va n vc) (hz : StrsAt w B (.slice va n vc) zs) (hn : zs.length = n) (hn2 : n ≤ 1048576) (hbase : base ≤ w.heap.size)
    (h : ∀ g cap w', base ≤ g → w'.ownsRow base 37 1 (.slice (some ⟨g, 0, none⟩) n cap) n (zs.map Value.string) → w.grownBy w' (some g0) → K (a.put o.dst (.slice (some ⟨g, 0, none⟩) n cap)) w') :
    if Region.wanted o (yielded ops a.tmps) = true then Oper.wp Tryf.prog o a w K Q else E := by
  have hw : Region.wanted o (yielded ops a.tmps) = true := by simp [Region.wanted, hgd]
  rw [if_pos hw]
  obtain ⟨v', w', hrun, ⟨g, cap, rfl, hg, hown'⟩, hgr⟩ := run_append_strs w base o.type g0 hown B va n vc zs hz hn hn2 hbase
  unfold Oper.wp
  simp [execOp, ho, resolve, invoke, builtin, hs, hx, hrun, Result.andThen]
  subst hn
  exact h g cap w' hg hown' hgr

theorem set_same {C : Array Value} {i : Nat} {v : Value} (h : C[i]? = some v) : C.setIfInBounds i v = C := by
  apply Array.ext_getElem?
  intro j
  by_cases hj : i = j
  · subst hj
    rw [Array.getElem?_setIfInBounds_self]
    have := (Array.getElem?_eq_some_iff.1 h).1
    rw [if_pos this, h]
  · rw [Array.getElem?_setIfInBounds_ne hj]
theorem nb_end {b k : Nat} {C : Array Value} {tb : TypeId} {n : Nat} {zs : List ByteArray} {w w3 : World} {g cap : Nat} (hb3 : w3.heap[b]? = some (.cells C tb (0, 0))) (hn : zs.length = n) (hlt : b < w.heap.size) (hg : w.heap.size ≤ g)
    (hown : w3.ownsRow w.heap.size 37 1 (.slice (some ⟨g, 0, none⟩) n cap) n (zs.map Value.string)) (hgr : ((w.alloc (.cells #[] 37 (0, 0))).drew).grownBy w3 (some w.heap.size)) :
    ∃ fv, (w3.setCell ⟨b, k + 2, none⟩ (.slice (some ⟨g, 0, none⟩) n cap)).heap[b]? = some (.cells (C.setIfInBounds (k + 2) fv) tb (0, 0)) ∧ FvNew w.heap.size (w3.setCell ⟨b, k + 2, none⟩ (.slice (some ⟨g, 0, none⟩) n cap)) fv zs ∧ Kept (fun i => i = b) w (w3.setCell ⟨b, k + 2, none⟩ (.slice (some ⟨g, 0, none⟩) n cap)) := by
  subst hn
  refine ⟨.slice (some ⟨g, 0, none⟩) zs.length cap, ?_, ⟨g, cap, rfl, hg, ownsRow_same hown fun g' hg' => ?_⟩, ?_⟩
  · exact (Lib.heap_setCell_same hb3 _).trans (by simp)
  · obtain rfl : g = g' := by simpa [Value.ownBlock] using hg'
    exact Below.heap_setCell w3 ⟨b, k + 2, none⟩ _ g (by show g ≠ b; omega)
  · have hs : w.heap.size ≤ w3.heap.size := Nat.le_trans (by simp) hgr.size
    have k2 : Kept (fun i => i = b) w w3 := ⟨hgr.os, hgr.tape, hgr.output, hs, fun i hi _ =>
      (hgr.block i (Nat.lt_of_lt_of_le hi (by simp)) (fun e => by cases e; omega)).trans (Below.heap_alloc w _ i hi)⟩
    exact k2.trans (Kept.setCell w3 ⟨b, k + 2, none⟩ _)
theorem nb_none {b k : Nat} {C : Array Value} {tb : TypeId} {zs : List ByteArray} {w w' : World} (h1 : C[k + 1]? = some (.pointer none)) (h : ∃ fv, w'.heap[b]? = some (.cells (C.setIfInBounds (k + 2) fv) tb (0, 0)) ∧ FvNew w.heap.size w' fv zs ∧ Kept (fun i => i = b) w w') : NBPost b k C tb zs none w (.returned (.tuple #[])) w' := by
  obtain ⟨fv, a1, a2, a3⟩ := h
  exact ⟨rfl, none, fv, by rw [set_same h1]; exact a1, rfl, a2, a3⟩
theorem FvNew.mono {B B' : Nat} {w : World} {v : Value} {zs : List ByteArray} (h : FvNew B w v zs) (hB : B' ≤ B) : FvNew B' w v zs := by
  obtain ⟨g, cap, rfl, hg, hl, ho⟩ := h
  refine ⟨g, cap, rfl, by omega, hl, ?_⟩
  rcases ho with ⟨hv, _⟩ | ⟨g', cap', cur, hv, hb, h2⟩
  · cases hv
  · exact .inr ⟨g', cap', cur, hv, by omega, h2⟩
theorem nb_some {b k : Nat} {C : Array Value} {tb : TypeId} {zs : List ByteArray} {w w2 w' : World} {t : ByteArray} (hlt : b < w.heap.size) (hw2 : (w.alloc (.cells #[.string t] 9 (0, 0))).setCell ⟨b, k + 1, none⟩ (.pointer (some ⟨w.heap.size, 0, none⟩)) = w2)
    (h : ∃ fv, w'.heap[b]? = some (.cells ((C.setIfInBounds (k + 1) (.pointer (some ⟨w.heap.size, 0, none⟩))).setIfInBounds (k + 2) fv) tb (0, 0)) ∧ FvNew w2.heap.size w' fv zs ∧ Kept (fun i => i = b) w2 w') : NBPost b k C tb zs (some t) w (.returned (.tuple #[])) w' := by
  obtain ⟨fv, a1, a2, a3⟩ := h
  have hs : w2.heap.size = w.heap.size + 1 := by rw [← hw2]; simp [World.setCell]
  have K1 : Kept (fun i => i = b) w (w.alloc (.cells #[.string t] 9 (0, 0))) := Kept.ofBelow ((Below.refl _ w).alloc (Nat.le_refl _) _)
  have K2 : Kept (fun i => i = b) (w.alloc (.cells #[.string t] 9 (0, 0))) w2 := by rw [← hw2]; exact Kept.setCell _ ⟨b, k + 1, none⟩ _
  refine ⟨rfl, some ⟨w.heap.size, 0, none⟩, fv, a1, ⟨w.heap.size, Nat.le_refl _, rfl, ?_⟩, a2.mono (by omega), (K1.trans K2).trans a3⟩
  rw [a3.block w.heap.size (by omega) (by omega), K2.block w.heap.size (by simp) (by omega)]
  exact heap_alloc_new w _

set_option maxHeartbeats 1600000 in
set_option maxRecDepth 100000 in
theorem cloneNB_none (T : TypeId) (k b : Nat) (hT : NodeT T k) (C : Array Value) (tb : TypeId) (va : Option Addr) (n vc : Nat) (zs : List ByteArray) (w : World) (hb : w.heap[b]? = some (.cells C tb (0, 0)))
    (h1 : C[k + 1]? = some (.pointer none)) (h2 : C[k + 2]? = some (.slice va n vc)) (hz : StrsAt w w.heap.size (.slice va n vc) zs) (hn : zs.length = n) (hn2 : n ≤ 1048576) :
    Calls Tryf.prog 20 #[.iface T (.pointer (some ⟨b, 0, none⟩))] w (NBPost b k C tb zs none w) := by
  have hlt : b < w.heap.size := (Array.getElem?_eq_some_iff.1 hb).1
  have c1 : w.cell? ⟨b, k + 1, none⟩ = some (.pointer none) := (cell_of_row w b (k + 1) _ _ _ hb).trans h1
  have c2 : w.cell? ⟨b, k + 2, none⟩ = some (.slice va n vc) := (cell_of_row w b (k + 2) _ _ _ hb).trans h2
  have m1 := fun w => hT.ctx b w
  have m2 := fun w => hT.free b w
  have m4 := fun w => hT.sfree b w
  have m6 := fun w => hT.nsfree b w
  have hmk : ∀ w, (Instr.makeSlice 50 (.int .i64 0) (.int .i64 0)).run Tryf.prog w = .ok (.slice (some ⟨w.heap.size, 0, none⟩) 0 0) (w.alloc (.cells #[] 37 (0, 0))) := fun w => by kernel_rfl
  have HB := Lib.hid hb
  have HZ := Lib.hid hz
  have HN := Lib.hid hn
  have H1 := Lib.hid h1
  have H2 := Lib.hid h2
  clear hb hz hn h1 h2 hT
  go_enter Tryf.func20, Tryf.ntmps20
  go_wp2_with (first | (go_at_call 36; refine (nbContext b k _ _ c1).mono ?_; rintro e w' ⟨rfl, rfl⟩))
  have W1b : (((w.alloc (.cells #[] 37 (0, 0))).drew : World).heap[b]? = some (.cells C tb (0, 0))) := (Below.heap_alloc w _ b hlt).trans HB.out
  have HW1b := Lib.hid W1b
  have c2' : ((w.alloc (.cells #[] 37 (0, 0))).drew).cell? ⟨b, k + 2, none⟩ = some (.slice va n vc) := (cell_of_row _ b (k + 2) _ _ _ HW1b.out).trans H2.out
  have HO1 : Hid (((w.alloc (.cells #[] 37 (0, 0))).drew).ownsRow w.heap.size 37 1 (.slice (some ⟨w.heap.size, 0, none⟩) 0 0) 0 []) :=
    Lib.hid ⟨rfl, .inr ⟨w.heap.size, 0, #[], rfl, Nat.le_refl _, heap_alloc_new w _, Nat.le_refl _, by unfold maxLen; omega, by simp, rfl⟩⟩
  have HZ1 : Hid (StrsAt ((w.alloc (.cells #[] 37 (0, 0))).drew) w.heap.size (.slice va n vc) zs) := Lib.hid (HZ.out.below (drew_below ((Below.refl _ w).alloc (Nat.le_refl _) _)))
  have HL1 : Hid (b < ((w.alloc (.cells #[] 37 (0, 0))).drew).heap.size) := Lib.hid (Nat.lt_of_lt_of_le hlt (by simp))
  have HL3 : Hid (w.heap.size ≤ ((w.alloc (.cells #[] 37 (0, 0))).drew).heap.size) := Lib.hid (by simp)
  have HL2 : Hid (some b ≠ some w.heap.size) := Lib.hid (fun e => by simp at e; omega)
  clear W1b
  go_region_law (first
    | (refine step_append_strs (by rfl) _ _ (by rfl) w.heap.size w.heap.size (by rfl) (by exact HO1.out) w.heap.size va n vc zs (by rfl) (by exact HZ1.out) HN.out hn2 HL3.out ?_; intro g cap w3 hg3 hown3 hgr3;
        have HO3 := Lib.hid hown3; have HB3 : Hid (w3.heap[b]? = some (.cells C tb (0, 0))) := Lib.hid ((hgr3.block b HL1.out HL2.out).trans HW1b.out);
        have c3 : w3.cell? ⟨b, k + 2, none⟩ = some (.slice va n vc) := (cell_of_row w3 b (k + 2) _ _ _ HB3.out).trans H2.out; have z3 : w3.frozen? ⟨b, k + 2, none⟩ = false := frozen_of HB3.out (k + 2))
    | (go_simp; go_at_call 37; first
        | (refine (nbFree b k (.slice va n vc) w.drew c2).mono ?_; rintro e w' ⟨rfl, rfl⟩)
        | (refine (nbFree b k (.slice va n vc) ((w.alloc (.cells #[] 37 (0, 0))).drew) c2').mono ?_; rintro e w' ⟨rfl, rfl⟩))
    | (go_simp; go_at_call 41; refine (nbSetFree b k _ _ _ _ _ c3 z3).mono ?_; rintro e w' ⟨rfl, rfl⟩))
  all_goals go_end0
  all_goals exact nb_none H1.out (nb_end HB3.out HN.out hlt hg3 HO3.out hgr3)

end Go.Proofs.YtpcoeakcnmeblaaFmt
