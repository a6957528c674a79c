/-
  emitFullToken and emitToken: one token is appended and takes the fodder with it.
-/
import Derived.Test.YthohpccmleodpaaFmtLexC
import Derived.Deep.RegionHeld3
import Derived.Deep.AppendLies
import Derived.Deep.DrawnRows
import Derived.KernelRfl
namespace Go.Proofs.YthohpccmleodpaaFmt
open Go Go.RowKit Go.Shelf
attribute [local go_sem ↓] Go.wp_at_zero Go.wp_at_succ

/-- Every old block but those of S stays as it was. -/
structure Kept (S : Nat → Prop) (w w' : World) : Prop where
  os : w'.os = w.os
  tape : w'.tape = w.tape
  output : w'.output = w.output
  size : w.heap.size ≤ w'.heap.size
  block : ∀ k, k < w.heap.size → ¬ S k → w'.heap[k]? = w.heap[k]?

theorem Kept.refl (S : Nat → Prop) (w : World) : Kept S w w := ⟨rfl, rfl, rfl, Nat.le_refl _, fun _ _ _ => rfl⟩
theorem Kept.trans {S : Nat → Prop} {a b c : World} (h : Kept S a b) (k : Kept S b c) : Kept S a c :=
  ⟨k.os.trans h.os, k.tape.trans h.tape, k.output.trans h.output, Nat.le_trans h.size k.size, fun i hi hS => (k.block i (Nat.lt_of_lt_of_le hi h.size) hS).trans (h.block i hi hS)⟩
theorem Kept.mono {S T : Nat → Prop} {a b : World} (h : Kept S a b) (hST : ∀ k, k < a.heap.size → S k → T k) : Kept T a b :=
  ⟨h.os, h.tape, h.output, h.size, fun i hi hT => h.block i hi fun hS => hT (hST i hi hS)⟩
theorem Kept.ofGrown {S : Nat → Prop} {a b : World} {r : Option Nat} (h : a.grownBy b r) (hr : ∀ k, k < a.heap.size → r = some k → S k) : Kept S a b :=
  ⟨h.os, h.tape, h.output, h.size, fun i hi hS => h.block i hi fun e => hS (hr i hi e.symm)⟩
theorem Kept.ofBelow {S : Nat → Prop} {a b : World} (h : Below a.heap.size a b) : Kept S a b :=
  ⟨h.os, h.tape, h.output, h.size, fun i hi _ => h.block i hi⟩
theorem Kept.below {S : Nat → Prop} {a b : World} {B : Nat} (h : Kept S a b) (hB : ∀ k, S k → B ≤ k) (hs : B ≤ a.heap.size) : Below B a b :=
  ⟨h.os, h.tape, h.output, h.size, fun i hi => h.block i (by omega) fun hS => by have := hB i hS; omega⟩

theorem ownsRow_below {w w' : World} {B : Nat} {e : TypeId} {size : Nat} {v : Value} {n : Nat} {xs : List Value} (h : w.ownsRow B e size v n xs) (hb : Below w.heap.size w w') : w'.ownsRow B e size v n xs :=
  ownsRow_same h fun g hg => by
    obtain ⟨c, fz, hc⟩ := Lib.ownsRow_kind h g hg
    exact hb.block g (Array.getElem?_eq_some_iff.1 hc).1

theorem ownsRow_blocks {w w' : World} {B : Nat} {e : TypeId} {size : Nat} {v : Value} {n : Nat} {xs : List Value} (h : w.ownsRow B e size v n xs) (hb : ∀ k, k < w.heap.size → w'.heap[k]? = w.heap[k]?) : w'.ownsRow B e size v n xs :=
  ownsRow_same h fun g hg => by
    obtain ⟨c, fz, hc⟩ := Lib.ownsRow_kind h g hg
    exact hb g (Array.getElem?_eq_some_iff.1 hc).1

theorem infoTok : (Tryf.prog.info? 47).map (fun i => (i.zero, i.size, i.bytes)) = some (some (.agg #[.slice none 0 0, .string ⟨#[]⟩, .string ⟨#[]⟩, .string ⟨#[]⟩, .pointer none, .string ⟨#[]⟩, .int .i64 0, .int .i64 0, .int .i64 0, .int .i64 0, .int .i64 0]), 11, 136) := by kernel_rfl

/-- The eleven cells of a token. -/
def tokCells (fod : Value) (data si st : ByteArray) (src : Value) (im : ByteArray) (l1 c1 l2 c2 k : Int) : List Value :=
  [fod, .string data, .string si, .string st, src, .string im, .int .i64 l1, .int .i64 c1, .int .i64 l2, .int .i64 c2, .int .i64 k]

theorem makeLoc (fn : ByteArray) (src : Option Addr) (a b c d : Int) (w : World) :
    Calls Tryf.prog 41 #[.string fn, .pointer src, .agg #[.int .i64 a, .int .i64 b], .agg #[.int .i64 c, .int .i64 d]] w fun e w' => e = .returned (.agg #[.pointer src, .string fn, .int .i64 a, .int .i64 b, .int .i64 c, .int .i64 d]) ∧ Below w.heap.size w w' := by
  go_enter Tryf.func41, Tryf.ntmps41
  go_wp2
  exact bodyPost_ret (v := .agg #[.pointer src, .string fn, .int .i64 a, .int .i64 b, .int .i64 c, .int .i64 d]) (by simp [results, Tryf.results41, go_sem]) rfl ⟨rfl, (((Below.refl _ _).alloc (Nat.le_refl _) _).alloc (by simp) _).alloc (by simp; omega) _⟩

def EmitS (a : Nat) (L : LexSt) (p : Option Addr) (fp : Option Addr) (fn fc : Nat) (w : World) : Prop :=
  w.cell? ⟨a, 1, none⟩ = some (.string L.im) ∧ w.cell? ⟨a, 3, none⟩ = some (.pointer p) ∧ w.cell? ⟨a, 5, none⟩ = some (.slice fp fn fc) ∧ w.cell? ⟨a, 7, none⟩ = some (.int .i64 L.tl) ∧ w.cell? ⟨a, 8, none⟩ = some (.int .i64 L.tc) ∧ w.frozen? ⟨a, 4, none⟩ = false
theorem EmitS.of {a : Nat} {L : LexSt} {p : Option Addr} {fp : Option Addr} {fn fc : Nat} {w : World} (h : LexAt w a L) (hp : L.src = .pointer p) (hf : L.fod = .slice fp fn fc) : EmitS a L p fp fn fc w :=
  ⟨h.cell 1, (h.cell 3).trans (by rw [← hp]; rfl), (h.cell 5).trans (by rw [← hf]; rfl), h.cell 7, h.cell 8, h.free 4⟩

theorem EmitS.of' {a : Nat} {L : LexSt} {p : Option Addr} {fp : Option Addr} {fn fc : Nat} {w : World} (h : LexAt w a L) (hp : L.src = .pointer p) (hf : L.fod = .slice fp fn fc) (v : Value) : EmitS a L p fp fn fc (w.setCell ⟨a, 4, none⟩ v) :=
  EmitS.of (L := { L with toks := v }) ((LexAt.setc h _).trans (by simp [LexSt.cells])) hp hf

theorem tok_one (fp : Option Addr) (fn fc : Nat) (data si st : ByteArray) (p : Option Addr) (im : ByteArray) (l1 c1 l2 c2 k : Int) :
    ∀ u ∈ ([.slice fp fn fc, .string data, .string si, .string st, .pointer p, .string im, .int .i64 l1, .int .i64 c1, .int .i64 l2, .int .i64 c2, .int .i64 k] : List Value), u.oneCell' = true := by simp [Value.oneCell']

/-- What emitFullToken leaves. -/
def Emitted (w : World) (a : Nat) (L : LexSt) (B n : Nat) (xs : List Value) (data si st : ByteArray) (k : Int) (e : Ending) (w' : World) : Prop :=
  e = .returned (.tuple #[]) ∧ ∃ g cap M, LexAt w' a { L with toks := .slice (some ⟨g, 0, none⟩) (n + 1) cap, fod := .slice (some ⟨M, 0, none⟩) 0 0 } ∧
    w'.ownsRow B 47 11 (.slice (some ⟨g, 0, none⟩) (n + 1) cap) (n + 1) (xs ++ tokCells L.fod data si st L.src L.im L.tl L.tc L.loc1 L.loc2 k) ∧
    g ≠ a ∧ (L.toks.ownBlock = some g ∨ w.heap.size ≤ g) ∧ Kept (fun i => i = a ∨ L.toks.ownBlock = some i) w w'

/-- The same, and the block of the new, empty fodder. -/
def EmittedM (w : World) (a : Nat) (L : LexSt) (B n : Nat) (xs : List Value) (data si st : ByteArray) (k : Int) (e : Ending) (w' : World) : Prop :=
  e = .returned (.tuple #[]) ∧ ∃ g cap M, LexAt w' a { L with toks := .slice (some ⟨g, 0, none⟩) (n + 1) cap, fod := .slice (some ⟨M, 0, none⟩) 0 0 } ∧
    w'.ownsRow B 47 11 (.slice (some ⟨g, 0, none⟩) (n + 1) cap) (n + 1) (xs ++ tokCells L.fod data si st L.src L.im L.tl L.tc L.loc1 L.loc2 k) ∧
    g ≠ a ∧ (L.toks.ownBlock = some g ∨ w.heap.size ≤ g) ∧ Kept (fun i => i = a ∨ L.toks.ownBlock = some i) w w' ∧ w.heap.size ≤ M ∧ M ≠ g ∧ w'.heap[M]? = some (.cells #[] 80 (0, 0))

theorem EmittedM.weak {w : World} {a : Nat} {L : LexSt} {B n : Nat} {xs : List Value} {data si st : ByteArray} {k : Int} {e : Ending} {w' : World} (h : EmittedM w a L B n xs data si st k e w') : Emitted w a L B n xs data si st k e w' := by
  obtain ⟨h1, g, cap, M, h2, h3, h4, h5, h6, _⟩ := h
  exact ⟨h1, g, cap, M, h2, h3, h4, h5, h6⟩

theorem emit_end {a : Nat} {L : LexSt} {k : Int} {data si st : ByteArray} {B n : Nat} {xs : List Value} {w w1 w2 w3 : World} {p fp : Option Addr} {fn fc g cap : Nat} {o : Obj} (hlt : a < w.heap.size) (hne : L.toks.ownBlock ≠ some a) (h3 : LexAt w3 a L)
    (hown3 : w3.ownsRow B 47 11 (.slice (some ⟨g, 0, none⟩) (n + 1) cap) (n + 1) (xs ++ [.slice fp fn fc, .string data, .string si, .string st, .pointer p, .string L.im, .int .i64 L.tl, .int .i64 L.tc, .int .i64 L.loc1, .int .i64 L.loc2, .int .i64 k]))
    (hgrow : (w2.alloc o).grownBy w3 L.toks.ownBlock) (hat : L.toks.ownBlock = some g ∨ g = w2.heap.size + 1) (hltg : g < w3.heap.size) (hw1 : Below w.drew.heap.size w.drew w1) (hw2 : Below w1.heap.size w1 w2) (hp : L.src = .pointer p) (hf : L.fod = .slice fp fn fc) :
    EmittedM w a L B n xs data si st k (.returned (.tuple #[])) (((w3.setCell ⟨a, 4, none⟩ (.slice (some ⟨g, 0, none⟩) (n + 1) cap)).setCell ⟨a, 5, none⟩ (.slice (some ⟨w3.heap.size, 0, none⟩) 0 0)).alloc (.cells #[] 80 (0, 0))) := by
  have hs1 : w.heap.size ≤ w1.heap.size := hw1.size
  have hs2 : w1.heap.size ≤ w2.heap.size := hw2.size
  have hga : g ≠ a := by
    rintro rfl
    rcases hat with h | h
    · exact hne h
    · omega
  have G : w3.grownBy (((w3.setCell ⟨a, 4, none⟩ (.slice (some ⟨g, 0, none⟩) (n + 1) cap)).setCell ⟨a, 5, none⟩ (.slice (some ⟨w3.heap.size, 0, none⟩) 0 0)).alloc (.cells #[] 80 (0, 0))) (some a) :=
    Lib.grownBy_below (Lib.grownBy_setB (Lib.grownBy_setB (World.grownBy.refl w3 _) _ _) _ _) ((Below.refl _ _).alloc (Nat.le_refl _) _)
  refine ⟨rfl, g, cap, w3.heap.size, ?_, ?_, hga, ?_, ?_, ?_, by omega, ?_⟩
  · have h4 : LexAt (w3.setCell ⟨a, 4, none⟩ (.slice (some ⟨g, 0, none⟩) (n + 1) cap)) a { L with toks := .slice (some ⟨g, 0, none⟩) (n + 1) cap } := (LexAt.setc h3 _).trans (by simp [LexSt.cells])
    have h5 : LexAt ((w3.setCell ⟨a, 4, none⟩ (.slice (some ⟨g, 0, none⟩) (n + 1) cap)).setCell ⟨a, 5, none⟩ (.slice (some ⟨w3.heap.size, 0, none⟩) 0 0)) a { L with toks := .slice (some ⟨g, 0, none⟩) (n + 1) cap, fod := .slice (some ⟨w3.heap.size, 0, none⟩) 0 0 } := (LexAt.setc h4 _).trans (by simp [LexSt.cells])
    exact (((Below.refl _ _).alloc (Nat.le_refl _) _).block a h5.lt).trans h5
  · unfold tokCells
    rw [hf, hp]
    exact ownsRow_same hown3 fun g' hg' => by
      obtain rfl : g = g' := by simpa [Value.ownBlock] using hg'
      exact G.block g hltg (fun e => hga (by cases e; rfl))
  · rcases hat with h | h
    · exact .inl h
    · exact .inr (by omega)
  · have K1 : Kept (fun i => i = a ∨ L.toks.ownBlock = some i) w w1 := ⟨hw1.os, hw1.tape, hw1.output, hw1.size, fun i hi _ => hw1.block i hi⟩
    have K2 : Kept (fun i => i = a ∨ L.toks.ownBlock = some i) w1 w2 := Kept.ofBelow hw2
    have K3 : Kept (fun i => i = a ∨ L.toks.ownBlock = some i) w2 (w2.alloc o) := Kept.ofBelow ((Below.refl _ _).alloc (Nat.le_refl _) o)
    have K4 : Kept (fun i => i = a ∨ L.toks.ownBlock = some i) (w2.alloc o) w3 := Kept.ofGrown hgrow fun i _ e => .inr e
    exact (((K1.trans K2).trans K3).trans K4).trans (Kept.ofGrown G fun i _ e => .inl (by cases e; rfl))
  · have := hgrow.size
    have h2 : (w2.alloc o).heap.size = w2.heap.size + 1 := by simp
    omega
  · have h := heap_alloc_new ((w3.setCell ⟨a, 4, none⟩ (.slice (some ⟨g, 0, none⟩) (n + 1) cap)).setCell ⟨a, 5, none⟩ (.slice (some ⟨w3.heap.size, 0, none⟩) 0 0)) (.cells #[] 80 (0, 0))
    rw [show ((w3.setCell ⟨a, 4, none⟩ (.slice (some ⟨g, 0, none⟩) (n + 1) cap)).setCell ⟨a, 5, none⟩ (.slice (some ⟨w3.heap.size, 0, none⟩) 0 0)).heap.size = w3.heap.size from by simp [World.setCell]] at h
    exact h

set_option maxHeartbeats 3200000 in
set_option maxRecDepth 100000 in
theorem emitFullTokenM (a : Nat) (L : LexSt) (k : Int) (data si st : ByteArray) (B n : Nat) (xs : List Value) (w : World) (h : LexAt w a L) (p : Option Addr) (hp : L.src = .pointer p) (fp : Option Addr) (fn fc : Nat) (hf : L.fod = .slice fp fn fc)
    (hown : w.ownsRow B 47 11 L.toks n xs) (hne : L.toks.ownBlock ≠ some a) (hB : B ≤ w.heap.size) (hn : n ≤ 1000000000000) (hb1 : L.bn ≤ 1099511627776) (hs0 : 0 ≤ L.ls) (hs1 : L.ls ≤ L.bn) :
    Calls Tryf.prog 25 #[.pointer (some ⟨a, 0, none⟩), .int .i64 k, .string data, .string si, .string st] w (EmittedM w a L B n xs data si st k) := by
  obtain ⟨i0, hi0, hz0, hz1, hz2⟩ := info_parts infoTok
  have hlt := h.lt
  have c4 : w.cell? ⟨a, 4, none⟩ = some L.toks := h.cell 4
  have HH := Lib.hid h
  have HO := Lib.hid hown
  have HB := Lib.hid (And.intro hs0 hs1)
  have hn1 : n + 1 ≤ maxLen := by unfold maxLen; omega
  have hn2 : (n + 1) * 136 ≤ 140737488355328 := by omega
  clear h hown hs0 hs1
  go_enter Tryf.func25, Tryf.ntmps25
  go_wp2_with fail
  have hc5 : ∀ {W : World}, LexAt W a L → W.cell? ⟨a, 5, none⟩ = some (.slice fp fn fc) := fun h => (h.cell 5).trans (by rw [← hf]; rfl)
  refine wp_region_noPanic ?_
  refine wp_region_held_drew (S := (fun w => w.cell? ⟨a, 1, none⟩ = some (.string L.im) ∧ w.cell? ⟨a, 3, none⟩ = some (.pointer p) ∧ w.cell? ⟨a, 5, none⟩ = some (.slice fp fn fc) ∧ w.cell? ⟨a, 7, none⟩ = some (.int .i64 L.tl) ∧ w.cell? ⟨a, 8, none⟩ = some (.int .i64 L.tc) ∧ w.frozen? ⟨a, 4, none⟩ = false)) (by kernel_rfl) (EmitS.of HH.out hp hf) (fun hHeld => ?_)
  refine wpAnyH_take (i := 0) (oi := _) (v := ?v1) rfl (by kernel_rfl) (by kernel_rfl) (by kernel_rfl) (fun _ _ _ h => h) (Or.inl ⟨by rfl, ?hy1⟩) hHeld ?rest1
  case hy1 => intro w hSw; (try dsimp only at hSw); go_simp <;> with_reducible rfl
  simp only [Act.put, List.getElem_toArray, List.getElem_cons_zero, List.setIfInBounds_toArray, List.set_cons_zero, List.set_cons_succ]
  refine wpAnyH_take (i := 1) (oi := _) (v := ?v2) rfl (by kernel_rfl) (by kernel_rfl) (by kernel_rfl) (fun _ _ _ h => h) (Or.inl ⟨by rfl, ?hy2⟩) hHeld ?rest2
  case hy2 => intro w hSw; (try dsimp only at hSw); go_simp <;> with_reducible rfl
  simp only [Act.put, List.getElem_toArray, List.getElem_cons_succ, List.getElem_cons_zero, List.setIfInBounds_toArray, List.set_cons_zero, List.set_cons_succ]
  refine wpAnyH_take (i := 2) (oi := _) (v := ?v3) rfl (by kernel_rfl) (by kernel_rfl) (by kernel_rfl) (fun _ _ _ h => h) (Or.inl ⟨by rfl, ?hy3⟩) hHeld ?rest3
  case hy3 => intro w hSw; (try dsimp only at hSw); go_simp <;> with_reducible rfl
  simp only [Act.put, List.getElem_toArray, List.getElem_cons_succ, List.getElem_cons_zero, List.setIfInBounds_toArray, List.set_cons_zero, List.set_cons_succ]
  refine wpAnyH_take (i := 3) (oi := _) (v := ?v4) rfl (by kernel_rfl) (by kernel_rfl) (by kernel_rfl) (fun _ _ _ h => h) (Or.inl ⟨by rfl, ?hy4⟩) hHeld ?rest4
  case hy4 => intro w hSw; (try dsimp only at hSw); go_simp <;> with_reducible rfl
  simp only [Act.put, List.getElem_toArray, List.getElem_cons_succ, List.getElem_cons_zero, List.setIfInBounds_toArray, List.set_cons_zero, List.set_cons_succ]
  refine wpAnyH_take (i := 5) (oi := _) (v := ?v5) rfl (by kernel_rfl) (by kernel_rfl) (by kernel_rfl) (fun _ _ _ h => h) (Or.inl ⟨by rfl, ?hy5⟩) hHeld ?rest5
  case hy5 => intro w hSw; (try dsimp only at hSw); go_simp <;> with_reducible rfl
  simp only [Act.put, List.getElem_toArray, List.getElem_cons_succ, List.getElem_cons_zero, List.setIfInBounds_toArray, List.set_cons_zero, List.set_cons_succ]
  refine wpAnyH_take (i := 6) (oi := _) (v := ?v6) rfl (by kernel_rfl) (by kernel_rfl) (by kernel_rfl) (fun _ _ _ h => h) (Or.inl ⟨by rfl, ?hy6⟩) hHeld ?rest6
  case hy6 => intro w hSw; (try dsimp only at hSw); go_simp <;> with_reducible rfl
  simp only [Act.put, List.getElem_toArray, List.getElem_cons_succ, List.getElem_cons_zero, List.setIfInBounds_toArray, List.set_cons_zero, List.set_cons_succ]
  refine wpAnyH_take (i := 7) (oi := _) (v := ?v7) rfl (by kernel_rfl) (by kernel_rfl) (by kernel_rfl) (fun _ _ _ h => h) (Or.inl ⟨by rfl, ?hy7⟩) hHeld ?rest7
  case hy7 => intro w hSw; (try dsimp only at hSw); go_simp <;> with_reducible rfl
  simp only [Act.put, List.getElem_toArray, List.getElem_cons_succ, List.getElem_cons_zero, List.setIfInBounds_toArray, List.set_cons_zero, List.set_cons_succ]
  refine wpAnyH_take (i := 8) (oi := _) (v := ?v8) rfl (by kernel_rfl) (by kernel_rfl) (by kernel_rfl) (fun _ _ _ h => h) (Or.inl ⟨by rfl, ?hy8⟩) hHeld ?rest8
  case hy8 => intro w hSw; (try dsimp only at hSw); go_simp <;> with_reducible rfl
  simp only [Act.put, List.getElem_toArray, List.getElem_cons_succ, List.getElem_cons_zero, List.setIfInBounds_toArray, List.set_cons_zero, List.set_cons_succ]
  refine wpAnyH_take (i := 9) (oi := _) (v := ?v9) rfl (by kernel_rfl) (by kernel_rfl) (by kernel_rfl) (fun _ _ _ h => h) (Or.inl ⟨by rfl, ?hy9⟩) hHeld ?rest9
  case hy9 => intro w hSw; (try dsimp only at hSw); go_simp <;> with_reducible rfl
  simp only [Act.put, List.getElem_toArray, List.getElem_cons_succ, List.getElem_cons_zero, List.setIfInBounds_toArray, List.set_cons_zero, List.set_cons_succ]
  refine wpAnyH_take (i := 10) (oi := _) (v := ?v10) rfl (by kernel_rfl) (by kernel_rfl) (by kernel_rfl) (fun _ _ _ h => h) (Or.inl ⟨by rfl, ?hy10⟩) hHeld ?rest10
  case hy10 => intro w hSw; (try dsimp only at hSw); go_simp <;> with_reducible rfl
  simp only [Act.put, List.getElem_toArray, List.getElem_cons_succ, List.getElem_cons_zero, List.setIfInBounds_toArray, List.set_cons_zero, List.set_cons_succ]
  refine wpAnyH_take (i := 11) (oi := _) (v := ?v11) rfl (by kernel_rfl) (by kernel_rfl) (by kernel_rfl) (fun _ _ _ h => h) (Or.inl ⟨by rfl, ?hy11⟩) hHeld ?rest11
  case hy11 => intro w hSw; (try dsimp only at hSw); go_simp <;> with_reducible rfl
  simp only [Act.put, List.getElem_toArray, List.getElem_cons_succ, List.getElem_cons_zero, List.setIfInBounds_toArray, List.set_cons_zero, List.set_cons_succ]
  refine wpAnyH_take (i := 12) (oi := _) (v := ?v12) rfl (by kernel_rfl) (by kernel_rfl) (by kernel_rfl) (fun _ _ _ h => h) (Or.inl ⟨by rfl, ?hy12⟩) hHeld ?rest12
  case hy12 => intro w hSw; (try dsimp only at hSw); go_simp <;> with_reducible rfl
  simp only [Act.put, List.getElem_toArray, List.getElem_cons_succ, List.getElem_cons_zero, List.setIfInBounds_toArray, List.set_cons_zero, List.set_cons_succ]
  refine wpAnyH_take (i := 13) (oi := _) (v := ?v13) rfl (by kernel_rfl) (by kernel_rfl) (by kernel_rfl) (fun _ _ _ h => h) (Or.inl ⟨by rfl, ?hy13⟩) hHeld ?rest13
  case hy13 => intro w hSw; (try dsimp only at hSw); go_simp <;> with_reducible rfl
  simp only [Act.put, List.getElem_toArray, List.getElem_cons_succ, List.getElem_cons_zero, List.setIfInBounds_toArray, List.set_cons_zero, List.set_cons_succ]
  refine wpAnyH_take (i := 14) (oi := _) (v := ?v14) rfl (by kernel_rfl) (by kernel_rfl) (by kernel_rfl) (fun _ _ _ h => h) (Or.inl ⟨by rfl, ?hy14⟩) hHeld ?rest14
  case hy14 => intro w hSw; (try dsimp only at hSw); go_simp <;> with_reducible rfl
  simp only [Act.put, List.getElem_toArray, List.getElem_cons_succ, List.getElem_cons_zero, List.setIfInBounds_toArray, List.set_cons_zero, List.set_cons_succ]
  refine wpAnyH_take (i := 15) (oi := _) (v := ?v15) rfl (by kernel_rfl) (by kernel_rfl) (by kernel_rfl) (fun _ _ _ h => h) (Or.inl ⟨by rfl, ?hy15⟩) hHeld ?rest15
  case hy15 => intro w hSw; (try dsimp only at hSw); go_simp <;> with_reducible rfl
  simp only [Act.put, List.getElem_toArray, List.getElem_cons_succ, List.getElem_cons_zero, List.setIfInBounds_toArray, List.set_cons_zero, List.set_cons_succ]
  refine wpAnyH_take (i := 16) (oi := _) (v := ?v16) rfl (by kernel_rfl) (by kernel_rfl) (by kernel_rfl) (fun _ _ _ h => h) (Or.inl ⟨by rfl, ?hy16⟩) hHeld ?rest16
  case hy16 => intro w hSw; (try dsimp only at hSw); go_simp <;> with_reducible rfl
  simp only [Act.put, List.getElem_toArray, List.getElem_cons_succ, List.getElem_cons_zero, List.setIfInBounds_toArray, List.set_cons_zero, List.set_cons_succ]
  refine wpAnyH_take (i := 17) (oi := _) (v := ?v17) rfl (by kernel_rfl) (by kernel_rfl) (by kernel_rfl) (fun _ _ _ h => h) (Or.inl ⟨by rfl, ?hy17⟩) hHeld ?rest17
  case hy17 => intro w hSw; (try dsimp only at hSw); go_simp <;> with_reducible rfl
  simp only [Act.put, List.getElem_toArray, List.getElem_cons_succ, List.getElem_cons_zero, List.setIfInBounds_toArray, List.set_cons_zero, List.set_cons_succ]
  refine wpAnyH_take (i := 18) (oi := _) (v := ?v18) rfl (by kernel_rfl) (by kernel_rfl) (by kernel_rfl) (fun _ _ _ h => h) (Or.inl ⟨by rfl, ?hy18⟩) hHeld ?rest18
  case hy18 => intro w hSw; (try dsimp only at hSw); go_simp <;> with_reducible rfl
  simp only [Act.put, List.getElem_toArray, List.getElem_cons_succ, List.getElem_cons_zero, List.setIfInBounds_toArray, List.set_cons_zero, List.set_cons_succ]
  refine wpAnyH_take (i := 19) (oi := _) (v := ?v19) rfl (by kernel_rfl) (by kernel_rfl) (by kernel_rfl) (fun _ _ _ h => h) (Or.inl ⟨by rfl, ?hy19⟩) hHeld ?rest19
  case hy19 => intro w hSw; (try dsimp only at hSw); go_simp <;> with_reducible rfl
  simp only [Act.put, List.getElem_toArray, List.getElem_cons_succ, List.getElem_cons_zero, List.setIfInBounds_toArray, List.set_cons_zero, List.set_cons_succ]
  refine wpAnyH_take (i := 20) (oi := _) (v := ?v20) rfl (by kernel_rfl) (by kernel_rfl) (by kernel_rfl) (fun _ _ _ h => h) (Or.inl ⟨by rfl, ?hy20⟩) hHeld ?rest20
  case hy20 => intro w hSw; (try dsimp only at hSw); go_simp <;> with_reducible rfl
  simp only [Act.put, List.getElem_toArray, List.getElem_cons_succ, List.getElem_cons_zero, List.setIfInBounds_toArray, List.set_cons_zero, List.set_cons_succ]
  refine wpAnyH_take (i := 21) (oi := _) (v := ?v21) rfl (by kernel_rfl) (by kernel_rfl) (by kernel_rfl) (fun _ _ _ h => h) (Or.inl ⟨by rfl, ?hy21⟩) hHeld ?rest21
  case hy21 => intro w hSw; (try dsimp only at hSw); go_simp <;> with_reducible rfl
  simp only [Act.put, List.getElem_toArray, List.getElem_cons_succ, List.getElem_cons_zero, List.setIfInBounds_toArray, List.set_cons_zero, List.set_cons_succ]
  refine wpAnyH_take (i := 22) (oi := _) (v := ?v22) rfl (by kernel_rfl) (by kernel_rfl) (by kernel_rfl) (fun _ _ _ h => h) (Or.inl ⟨by rfl, ?hy22⟩) hHeld ?rest22
  case hy22 => intro w hSw; (try dsimp only at hSw); go_simp <;> with_reducible rfl
  simp only [Act.put, List.getElem_toArray, List.getElem_cons_succ, List.getElem_cons_zero, List.setIfInBounds_toArray, List.set_cons_zero, List.set_cons_succ]
  refine wpAnyH_take (i := 23) (oi := _) (v := ?v23) rfl (by kernel_rfl) (by kernel_rfl) (by kernel_rfl) (fun _ _ _ h => h) (Or.inl ⟨by rfl, ?hy23⟩) hHeld ?rest23
  case hy23 => intro w hSw; (try dsimp only at hSw); go_simp <;> with_reducible rfl
  simp only [Act.put, List.getElem_toArray, List.getElem_cons_succ, List.getElem_cons_zero, List.setIfInBounds_toArray, List.set_cons_zero, List.set_cons_succ]
  refine wpAnyH_take (i := 24) (oi := _) (v := ?v24) rfl (by kernel_rfl) (by kernel_rfl) (by kernel_rfl) (fun _ _ _ h => h) (Or.inl ⟨by rfl, ?hy24⟩) hHeld ?rest24
  case hy24 => intro w hSw; (try dsimp only at hSw); go_simp <;> with_reducible rfl
  simp only [Act.put, List.getElem_toArray, List.getElem_cons_succ, List.getElem_cons_zero, List.setIfInBounds_toArray, List.set_cons_zero, List.set_cons_succ]
  refine wpAnyH_take (i := 25) (oi := _) (v := ?v25) rfl (by kernel_rfl) (by kernel_rfl) (by kernel_rfl) (fun _ _ _ h => h) (Or.inl ⟨by rfl, ?hy25⟩) hHeld ?rest25
  case hy25 => intro w hSw; (try dsimp only at hSw); go_simp <;> with_reducible rfl
  simp only [Act.put, List.getElem_toArray, List.getElem_cons_succ, List.getElem_cons_zero, List.setIfInBounds_toArray, List.set_cons_zero, List.set_cons_succ]
  refine wpAnyH_ready (rs := [4, 26]) (by kernel_rfl) (by simp) ?_
  refine AllReadyH.cons (o := _) rfl (fun K hK => ?x26) (AllReadyH.cons (o := _) rfl (fun K hK => ?y26) AllReadyH.nil)
  case x26 =>
    simp only [Act.put, List.getElem_toArray, List.getElem_cons_succ, List.getElem_cons_zero, List.setIfInBounds_toArray, List.set_cons_zero, List.set_cons_succ]
    go_simp
    refine hK.out _ _ ?s27 (fun hHeld => ?r27)
    case s27 => exact (by assumption)
    clear hK K
    try simp only [Act.put, List.getElem_toArray, List.getElem_cons_succ, List.getElem_cons_zero, List.setIfInBounds_toArray, List.set_cons_zero, List.set_cons_succ]
    refine wpAnyH_ready (rs := [26]) (by kernel_rfl) (by simp) ?_
    refine AllReadyH.cons (o := _) rfl (fun K hK => ?_) AllReadyH.nil
    simp only [Act.put, List.getElem_toArray, List.getElem_cons_succ, List.getElem_cons_zero, List.setIfInBounds_toArray, List.set_cons_zero, List.set_cons_succ]
    go_simp
    refine (location a L _ (by exact HH.out) hb1 HB.out.1 HB.out.2).mono ?_
    rintro e w1 ⟨rfl, hw1⟩
    have HH1 : Hid (LexAt w1 a L) := Lib.hid ((hw1.block a hlt).trans HH.out)
    have hsz1 : w.heap.size ≤ w1.heap.size := hw1.size
    have c41 : w1.cell? ⟨a, 4, none⟩ = some L.toks := HH1.out.cell 4
    have hlt1 : a < w1.heap.size := HH1.out.lt
    go_wp2_with fail
    refine hK.out _ _ ?s28 (fun hHeld => ?r28)
    case s28 => exact EmitS.of HH1.out hp hf
    clear hK K
    try simp only [Act.put, List.getElem_toArray, List.getElem_cons_succ, List.getElem_cons_zero, List.setIfInBounds_toArray, List.set_cons_zero, List.set_cons_succ]
    refine wpAnyH_ready (rs := [27]) (by kernel_rfl) (by simp) ?_
    refine AllReadyH.cons (o := _) rfl (fun K hK => ?_) AllReadyH.nil
    simp only [Act.put, List.getElem_toArray, List.getElem_cons_succ, List.getElem_cons_zero, List.setIfInBounds_toArray, List.set_cons_zero, List.set_cons_succ]
    go_simp
    refine (makeLoc _ _ _ _ _ _ _).mono ?_
    rintro e w2 ⟨rfl, hw2⟩
    have HH2 : Hid (LexAt w2 a L) := Lib.hid ((hw2.block a (Nat.lt_of_lt_of_le hlt hsz1)).trans HH1.out)
    have hsz2 : w.heap.size ≤ w2.heap.size := Nat.le_trans hsz1 hw2.size
    have c42 : w2.cell? ⟨a, 4, none⟩ = some L.toks := HH2.out.cell 4
    have hlt2 : a < w2.heap.size := HH2.out.lt
    have HHa : ∀ o, LexAt (w2.alloc o) a L := fun o => (((Below.refl w2.heap.size w2).alloc (Nat.le_refl _) o).block a (Nat.lt_of_lt_of_le hlt hsz2)).trans HH2.out
    have hBa : ∀ o, B ≤ (w2.alloc o).heap.size := fun o => Nat.le_trans (Nat.le_trans hB hsz2) ((Below.refl w2.heap.size w2).alloc (Nat.le_refl _) o).size
    have HO2 : Hid (w2.ownsRow B 47 11 L.toks n xs) := Lib.hid (ownsRow_blocks (ownsRow_blocks HO.out hw1.block) hw2.block)
    go_wp2_with fail
    refine hK.out _ _ ?s29 (fun hHeld => ?r29)
    case s29 => exact EmitS.of HH2.out hp hf
    clear hK K
    try simp only [Act.put, List.getElem_toArray, List.getElem_cons_succ, List.getElem_cons_zero, List.setIfInBounds_toArray, List.set_cons_zero, List.set_cons_succ]
    refine wpAnyH_take (i := 28) (oi := _) (v := ?v30) rfl (by kernel_rfl) (by kernel_rfl) (by kernel_rfl) (fun _ _ _ h => h) (Or.inl ⟨by rfl, ?hy30⟩) hHeld ?rest30
    case hy30 => intro w hSw; (try dsimp only at hSw); go_simp <;> with_reducible rfl
    simp only [Act.put, List.getElem_toArray, List.getElem_cons_succ, List.getElem_cons_zero, List.setIfInBounds_toArray, List.set_cons_zero, List.set_cons_succ]
    refine wpAnyH_ready (rs := [29]) (by kernel_rfl) (by simp) ?_
    refine AllReadyH.cons (o := _) rfl (fun K hK => ?_) AllReadyH.nil
    simp only [Act.put, List.getElem_toArray, List.getElem_cons_succ, List.getElem_cons_zero, List.setIfInBounds_toArray, List.set_cons_zero, List.set_cons_succ]
    go_simp
    refine hK.out _ _ ?s31 (fun hHeld => ?r31)
    case s31 => exact EmitS.of (HHa _) hp hf
    clear hK K
    try simp only [Act.put, List.getElem_toArray, List.getElem_cons_succ, List.getElem_cons_zero, List.setIfInBounds_toArray, List.set_cons_zero, List.set_cons_succ]
    refine wpAnyH_ready (rs := [30]) (by kernel_rfl) (by simp) ?_
    refine AllReadyH.cons (o := _) rfl (fun K hK => ?_) AllReadyH.nil
    simp only [List.getElem_toArray, List.getElem_cons_succ, List.getElem_cons_zero]
    rw [if_pos (by rfl)]
    refine wp_append_lies _ _ _ _ (by rfl) B 47 i0 _ 11 136 Tryf.underlying32 hi0 hz0 hz1 hz2 rfl (by omega) L.toks n xs (by rfl) (HO2.out.alloc _) ⟨w2.heap.size, 0, none⟩ 1 1 [.slice fp fn fc, .string data, .string si, .string st, .pointer p, .string L.im, .int .i64 L.tl, .int .i64 L.tc, .int .i64 L.loc1, .int .i64 L.loc2, .int .i64 k] (by rfl) (by rfl) (World.news_of_block (cs := #[.slice fp fn fc, .string data, .string si, .string st, .pointer p, .string L.im, .int .i64 L.tl, .int .i64 L.tc, .int .i64 L.loc1, .int .i64 L.loc2, .int .i64 k]) (t := 47) (fr := (0, 0)) (heap_alloc_new w2 _)) (tok_one fp fn fc data si st p L.im L.tl L.tc L.loc1 L.loc2 k) Nat.zero_lt_one hn1 hn2 (hBa _) (w2.heap.size + 1) (by simp) ?_
    intro g cap w3 hown3 hgrow hat hltg
    have HH3 : Hid (LexAt w3 a L) := Lib.hid ((hgrow.block a (HHa _).lt (Ne.symm hne)).trans (HHa _))
    have c43 : w3.cell? ⟨a, 4, none⟩ = some L.toks := HH3.out.cell 4
    refine hK.out _ _ ?s32 (fun hHeld => ?r32)
    case s32 => exact EmitS.of HH3.out hp hf
    clear hK K
    try simp only [Act.put, List.setIfInBounds_toArray, List.set_cons_zero, List.set_cons_succ]
    refine wpAnyH_take (i := 31) (oi := _) (v := ?v33) rfl (by kernel_rfl) (by kernel_rfl) (by kernel_rfl) (fun _ _ _ h => h) (Or.inl ⟨by rfl, ?hy33⟩) hHeld ?rest33
    case hy33 => intro w hSw; (try dsimp only at hSw); go_simp <;> with_reducible rfl
    simp only [Act.put, List.getElem_toArray, List.getElem_cons_succ, List.getElem_cons_zero, List.setIfInBounds_toArray, List.set_cons_zero, List.set_cons_succ]
    refine wpAnyH_take (i := 32) (oi := _) (v := ?v34) rfl (by kernel_rfl) (by kernel_rfl) (by kernel_rfl) (fun _ _ _ h => h) (Or.inl ⟨by rfl, ?hy34⟩) hHeld ?rest34
    case hy34 => intro w hSw; (try dsimp only at hSw); go_simp <;> with_reducible rfl
    simp only [Act.put, List.getElem_toArray, List.getElem_cons_succ, List.getElem_cons_zero, List.setIfInBounds_toArray, List.set_cons_zero, List.set_cons_succ]
    refine wpAnyH_ready (rs := [33]) (by kernel_rfl) (by simp) ?_
    refine AllReadyH.cons (o := _) rfl (fun K hK => ?_) AllReadyH.nil
    simp only [Act.put, List.getElem_toArray, List.getElem_cons_succ, List.getElem_cons_zero]
    go_simp
    refine hK.out _ _ ?s35 (fun hHeld => ?r35)
    case s35 => exact EmitS.of' HH3.out hp hf _
    clear hK K
    try simp only [Act.put, List.getElem_toArray, List.getElem_cons_succ, List.getElem_cons_zero, List.setIfInBounds_toArray, List.set_cons_zero, List.set_cons_succ]
    refine wpAnyH_done (by kernel_rfl) ?_ _
    refine NoPanic.normal ?_
    have c53 : w3.cell? ⟨a, 5, none⟩ = some (.slice fp fn fc) := hc5 HH3.out
    have z53 : w3.frozen? ⟨a, 5, none⟩ = false := HH3.out.free 5
    have hlt3 : a < w3.heap.size := HH3.out.lt
    clear hHeld
    go_wp2
    go_end0
    exact emit_end hlt hne HH3.out hown3 hgrow hat hltg hw1 hw2 hp hf
  case y26 =>
    simp only [Act.put, List.getElem_toArray, List.getElem_cons_succ, List.getElem_cons_zero, List.setIfInBounds_toArray, List.set_cons_zero, List.set_cons_succ]
    go_simp
    refine (location a L _ (by exact HH.out) hb1 HB.out.1 HB.out.2).mono ?_
    rintro e w1 ⟨rfl, hw1⟩
    have HH1 : Hid (LexAt w1 a L) := Lib.hid ((hw1.block a hlt).trans HH.out)
    have hsz1 : w.heap.size ≤ w1.heap.size := hw1.size
    have c41 : w1.cell? ⟨a, 4, none⟩ = some L.toks := HH1.out.cell 4
    have hlt1 : a < w1.heap.size := HH1.out.lt
    go_wp2_with fail
    refine hK.out _ _ ?s36 (fun hHeld => ?r36)
    case s36 => exact EmitS.of HH1.out hp hf
    clear hK K
    try simp only [Act.put, List.getElem_toArray, List.getElem_cons_succ, List.getElem_cons_zero, List.setIfInBounds_toArray, List.set_cons_zero, List.set_cons_succ]
    refine wpAnyH_ready (rs := [4, 27]) (by kernel_rfl) (by simp) ?_
    refine AllReadyH.cons (o := _) rfl (fun K hK => ?x37) (AllReadyH.cons (o := _) rfl (fun K hK => ?y37) AllReadyH.nil)
    case x37 =>
      simp only [Act.put, List.getElem_toArray, List.getElem_cons_succ, List.getElem_cons_zero, List.setIfInBounds_toArray, List.set_cons_zero, List.set_cons_succ]
      go_simp
      refine hK.out _ _ ?s38 (fun hHeld => ?r38)
      case s38 => exact (by assumption)
      clear hK K
      try simp only [Act.put, List.getElem_toArray, List.getElem_cons_succ, List.getElem_cons_zero, List.setIfInBounds_toArray, List.set_cons_zero, List.set_cons_succ]
      refine wpAnyH_ready (rs := [27]) (by kernel_rfl) (by simp) ?_
      refine AllReadyH.cons (o := _) rfl (fun K hK => ?_) AllReadyH.nil
      simp only [Act.put, List.getElem_toArray, List.getElem_cons_succ, List.getElem_cons_zero, List.setIfInBounds_toArray, List.set_cons_zero, List.set_cons_succ]
      go_simp
      refine (makeLoc _ _ _ _ _ _ _).mono ?_
      rintro e w2 ⟨rfl, hw2⟩
      have HH2 : Hid (LexAt w2 a L) := Lib.hid ((hw2.block a (Nat.lt_of_lt_of_le hlt hsz1)).trans HH1.out)
      have hsz2 : w.heap.size ≤ w2.heap.size := Nat.le_trans hsz1 hw2.size
      have c42 : w2.cell? ⟨a, 4, none⟩ = some L.toks := HH2.out.cell 4
      have hlt2 : a < w2.heap.size := HH2.out.lt
      have HHa : ∀ o, LexAt (w2.alloc o) a L := fun o => (((Below.refl w2.heap.size w2).alloc (Nat.le_refl _) o).block a (Nat.lt_of_lt_of_le hlt hsz2)).trans HH2.out
      have hBa : ∀ o, B ≤ (w2.alloc o).heap.size := fun o => Nat.le_trans (Nat.le_trans hB hsz2) ((Below.refl w2.heap.size w2).alloc (Nat.le_refl _) o).size
      have HO2 : Hid (w2.ownsRow B 47 11 L.toks n xs) := Lib.hid (ownsRow_blocks (ownsRow_blocks HO.out hw1.block) hw2.block)
      go_wp2_with fail
      refine hK.out _ _ ?s39 (fun hHeld => ?r39)
      case s39 => exact EmitS.of HH2.out hp hf
      clear hK K
      try simp only [Act.put, List.getElem_toArray, List.getElem_cons_succ, List.getElem_cons_zero, List.setIfInBounds_toArray, List.set_cons_zero, List.set_cons_succ]
      refine wpAnyH_take (i := 28) (oi := _) (v := ?v40) rfl (by kernel_rfl) (by kernel_rfl) (by kernel_rfl) (fun _ _ _ h => h) (Or.inl ⟨by rfl, ?hy40⟩) hHeld ?rest40
      case hy40 => intro w hSw; (try dsimp only at hSw); go_simp <;> with_reducible rfl
      simp only [Act.put, List.getElem_toArray, List.getElem_cons_succ, List.getElem_cons_zero, List.setIfInBounds_toArray, List.set_cons_zero, List.set_cons_succ]
      refine wpAnyH_ready (rs := [29]) (by kernel_rfl) (by simp) ?_
      refine AllReadyH.cons (o := _) rfl (fun K hK => ?_) AllReadyH.nil
      simp only [Act.put, List.getElem_toArray, List.getElem_cons_succ, List.getElem_cons_zero, List.setIfInBounds_toArray, List.set_cons_zero, List.set_cons_succ]
      go_simp
      refine hK.out _ _ ?s41 (fun hHeld => ?r41)
      case s41 => exact EmitS.of (HHa _) hp hf
      clear hK K
      try simp only [Act.put, List.getElem_toArray, List.getElem_cons_succ, List.getElem_cons_zero, List.setIfInBounds_toArray, List.set_cons_zero, List.set_cons_succ]
      refine wpAnyH_ready (rs := [30]) (by kernel_rfl) (by simp) ?_
      refine AllReadyH.cons (o := _) rfl (fun K hK => ?_) AllReadyH.nil
      simp only [List.getElem_toArray, List.getElem_cons_succ, List.getElem_cons_zero]
      rw [if_pos (by rfl)]
      refine wp_append_lies _ _ _ _ (by rfl) B 47 i0 _ 11 136 Tryf.underlying32 hi0 hz0 hz1 hz2 rfl (by omega) L.toks n xs (by rfl) (HO2.out.alloc _) ⟨w2.heap.size, 0, none⟩ 1 1 [.slice fp fn fc, .string data, .string si, .string st, .pointer p, .string L.im, .int .i64 L.tl, .int .i64 L.tc, .int .i64 L.loc1, .int .i64 L.loc2, .int .i64 k] (by rfl) (by rfl) (World.news_of_block (cs := #[.slice fp fn fc, .string data, .string si, .string st, .pointer p, .string L.im, .int .i64 L.tl, .int .i64 L.tc, .int .i64 L.loc1, .int .i64 L.loc2, .int .i64 k]) (t := 47) (fr := (0, 0)) (heap_alloc_new w2 _)) (tok_one fp fn fc data si st p L.im L.tl L.tc L.loc1 L.loc2 k) Nat.zero_lt_one hn1 hn2 (hBa _) (w2.heap.size + 1) (by simp) ?_
      intro g cap w3 hown3 hgrow hat hltg
      have HH3 : Hid (LexAt w3 a L) := Lib.hid ((hgrow.block a (HHa _).lt (Ne.symm hne)).trans (HHa _))
      have c43 : w3.cell? ⟨a, 4, none⟩ = some L.toks := HH3.out.cell 4
      refine hK.out _ _ ?s42 (fun hHeld => ?r42)
      case s42 => exact EmitS.of HH3.out hp hf
      clear hK K
      try simp only [Act.put, List.setIfInBounds_toArray, List.set_cons_zero, List.set_cons_succ]
      refine wpAnyH_take (i := 31) (oi := _) (v := ?v43) rfl (by kernel_rfl) (by kernel_rfl) (by kernel_rfl) (fun _ _ _ h => h) (Or.inl ⟨by rfl, ?hy43⟩) hHeld ?rest43
      case hy43 => intro w hSw; (try dsimp only at hSw); go_simp <;> with_reducible rfl
      simp only [Act.put, List.getElem_toArray, List.getElem_cons_succ, List.getElem_cons_zero, List.setIfInBounds_toArray, List.set_cons_zero, List.set_cons_succ]
      refine wpAnyH_take (i := 32) (oi := _) (v := ?v44) rfl (by kernel_rfl) (by kernel_rfl) (by kernel_rfl) (fun _ _ _ h => h) (Or.inl ⟨by rfl, ?hy44⟩) hHeld ?rest44
      case hy44 => intro w hSw; (try dsimp only at hSw); go_simp <;> with_reducible rfl
      simp only [Act.put, List.getElem_toArray, List.getElem_cons_succ, List.getElem_cons_zero, List.setIfInBounds_toArray, List.set_cons_zero, List.set_cons_succ]
      refine wpAnyH_ready (rs := [33]) (by kernel_rfl) (by simp) ?_
      refine AllReadyH.cons (o := _) rfl (fun K hK => ?_) AllReadyH.nil
      simp only [Act.put, List.getElem_toArray, List.getElem_cons_succ, List.getElem_cons_zero]
      go_simp
      refine hK.out _ _ ?s45 (fun hHeld => ?r45)
      case s45 => exact EmitS.of' HH3.out hp hf _
      clear hK K
      try simp only [Act.put, List.getElem_toArray, List.getElem_cons_succ, List.getElem_cons_zero, List.setIfInBounds_toArray, List.set_cons_zero, List.set_cons_succ]
      refine wpAnyH_done (by kernel_rfl) ?_ _
      refine NoPanic.normal ?_
      have c53 : w3.cell? ⟨a, 5, none⟩ = some (.slice fp fn fc) := hc5 HH3.out
      have z53 : w3.frozen? ⟨a, 5, none⟩ = false := HH3.out.free 5
      have hlt3 : a < w3.heap.size := HH3.out.lt
      clear hHeld
      go_wp2
      go_end0
      exact emit_end hlt hne HH3.out hown3 hgrow hat hltg hw1 hw2 hp hf
    case y37 =>
      simp only [Act.put, List.getElem_toArray, List.getElem_cons_succ, List.getElem_cons_zero, List.setIfInBounds_toArray, List.set_cons_zero, List.set_cons_succ]
      go_simp
      refine (makeLoc _ _ _ _ _ _ _).mono ?_
      rintro e w2 ⟨rfl, hw2⟩
      have HH2 : Hid (LexAt w2 a L) := Lib.hid ((hw2.block a (Nat.lt_of_lt_of_le hlt hsz1)).trans HH1.out)
      have hsz2 : w.heap.size ≤ w2.heap.size := Nat.le_trans hsz1 hw2.size
      have c42 : w2.cell? ⟨a, 4, none⟩ = some L.toks := HH2.out.cell 4
      have hlt2 : a < w2.heap.size := HH2.out.lt
      have HHa : ∀ o, LexAt (w2.alloc o) a L := fun o => (((Below.refl w2.heap.size w2).alloc (Nat.le_refl _) o).block a (Nat.lt_of_lt_of_le hlt hsz2)).trans HH2.out
      have hBa : ∀ o, B ≤ (w2.alloc o).heap.size := fun o => Nat.le_trans (Nat.le_trans hB hsz2) ((Below.refl w2.heap.size w2).alloc (Nat.le_refl _) o).size
      have HO2 : Hid (w2.ownsRow B 47 11 L.toks n xs) := Lib.hid (ownsRow_blocks (ownsRow_blocks HO.out hw1.block) hw2.block)
      go_wp2_with fail
      refine hK.out _ _ ?s46 (fun hHeld => ?r46)
      case s46 => exact EmitS.of HH2.out hp hf
      clear hK K
      try simp only [Act.put, List.getElem_toArray, List.getElem_cons_succ, List.getElem_cons_zero, List.setIfInBounds_toArray, List.set_cons_zero, List.set_cons_succ]
      refine wpAnyH_take (i := 28) (oi := _) (v := ?v47) rfl (by kernel_rfl) (by kernel_rfl) (by kernel_rfl) (fun _ _ _ h => h) (Or.inl ⟨by rfl, ?hy47⟩) hHeld ?rest47
      case hy47 => intro w hSw; (try dsimp only at hSw); go_simp <;> with_reducible rfl
      simp only [Act.put, List.getElem_toArray, List.getElem_cons_succ, List.getElem_cons_zero, List.setIfInBounds_toArray, List.set_cons_zero, List.set_cons_succ]
      refine wpAnyH_ready (rs := [4, 29]) (by kernel_rfl) (by simp) ?_
      refine AllReadyH.cons (o := _) rfl (fun K hK => ?x48) (AllReadyH.cons (o := _) rfl (fun K hK => ?y48) AllReadyH.nil)
      case x48 =>
        simp only [Act.put, List.getElem_toArray, List.getElem_cons_succ, List.getElem_cons_zero, List.setIfInBounds_toArray, List.set_cons_zero, List.set_cons_succ]
        go_simp
        refine hK.out _ _ ?s49 (fun hHeld => ?r49)
        case s49 => exact (by assumption)
        clear hK K
        try simp only [Act.put, List.getElem_toArray, List.getElem_cons_succ, List.getElem_cons_zero, List.setIfInBounds_toArray, List.set_cons_zero, List.set_cons_succ]
        refine wpAnyH_ready (rs := [29]) (by kernel_rfl) (by simp) ?_
        refine AllReadyH.cons (o := _) rfl (fun K hK => ?_) AllReadyH.nil
        simp only [Act.put, List.getElem_toArray, List.getElem_cons_succ, List.getElem_cons_zero, List.setIfInBounds_toArray, List.set_cons_zero, List.set_cons_succ]
        go_simp
        refine hK.out _ _ ?s50 (fun hHeld => ?r50)
        case s50 => exact EmitS.of (HHa _) hp hf
        clear hK K
        try simp only [Act.put, List.getElem_toArray, List.getElem_cons_succ, List.getElem_cons_zero, List.setIfInBounds_toArray, List.set_cons_zero, List.set_cons_succ]
        refine wpAnyH_ready (rs := [30]) (by kernel_rfl) (by simp) ?_
        refine AllReadyH.cons (o := _) rfl (fun K hK => ?_) AllReadyH.nil
        simp only [List.getElem_toArray, List.getElem_cons_succ, List.getElem_cons_zero]
        rw [if_pos (by rfl)]
        refine wp_append_lies _ _ _ _ (by rfl) B 47 i0 _ 11 136 Tryf.underlying32 hi0 hz0 hz1 hz2 rfl (by omega) L.toks n xs (by rfl) (HO2.out.alloc _) ⟨w2.heap.size, 0, none⟩ 1 1 [.slice fp fn fc, .string data, .string si, .string st, .pointer p, .string L.im, .int .i64 L.tl, .int .i64 L.tc, .int .i64 L.loc1, .int .i64 L.loc2, .int .i64 k] (by rfl) (by rfl) (World.news_of_block (cs := #[.slice fp fn fc, .string data, .string si, .string st, .pointer p, .string L.im, .int .i64 L.tl, .int .i64 L.tc, .int .i64 L.loc1, .int .i64 L.loc2, .int .i64 k]) (t := 47) (fr := (0, 0)) (heap_alloc_new w2 _)) (tok_one fp fn fc data si st p L.im L.tl L.tc L.loc1 L.loc2 k) Nat.zero_lt_one hn1 hn2 (hBa _) (w2.heap.size + 1) (by simp) ?_
        intro g cap w3 hown3 hgrow hat hltg
        have HH3 : Hid (LexAt w3 a L) := Lib.hid ((hgrow.block a (HHa _).lt (Ne.symm hne)).trans (HHa _))
        have c43 : w3.cell? ⟨a, 4, none⟩ = some L.toks := HH3.out.cell 4
        refine hK.out _ _ ?s51 (fun hHeld => ?r51)
        case s51 => exact EmitS.of HH3.out hp hf
        clear hK K
        try simp only [Act.put, List.setIfInBounds_toArray, List.set_cons_zero, List.set_cons_succ]
        refine wpAnyH_take (i := 31) (oi := _) (v := ?v52) rfl (by kernel_rfl) (by kernel_rfl) (by kernel_rfl) (fun _ _ _ h => h) (Or.inl ⟨by rfl, ?hy52⟩) hHeld ?rest52
        case hy52 => intro w hSw; (try dsimp only at hSw); go_simp <;> with_reducible rfl
        simp only [Act.put, List.getElem_toArray, List.getElem_cons_succ, List.getElem_cons_zero, List.setIfInBounds_toArray, List.set_cons_zero, List.set_cons_succ]
        refine wpAnyH_take (i := 32) (oi := _) (v := ?v53) rfl (by kernel_rfl) (by kernel_rfl) (by kernel_rfl) (fun _ _ _ h => h) (Or.inl ⟨by rfl, ?hy53⟩) hHeld ?rest53
        case hy53 => intro w hSw; (try dsimp only at hSw); go_simp <;> with_reducible rfl
        simp only [Act.put, List.getElem_toArray, List.getElem_cons_succ, List.getElem_cons_zero, List.setIfInBounds_toArray, List.set_cons_zero, List.set_cons_succ]
        refine wpAnyH_ready (rs := [33]) (by kernel_rfl) (by simp) ?_
        refine AllReadyH.cons (o := _) rfl (fun K hK => ?_) AllReadyH.nil
        simp only [Act.put, List.getElem_toArray, List.getElem_cons_succ, List.getElem_cons_zero]
        go_simp
        refine hK.out _ _ ?s54 (fun hHeld => ?r54)
        case s54 => exact EmitS.of' HH3.out hp hf _
        clear hK K
        try simp only [Act.put, List.getElem_toArray, List.getElem_cons_succ, List.getElem_cons_zero, List.setIfInBounds_toArray, List.set_cons_zero, List.set_cons_succ]
        refine wpAnyH_done (by kernel_rfl) ?_ _
        refine NoPanic.normal ?_
        have c53 : w3.cell? ⟨a, 5, none⟩ = some (.slice fp fn fc) := hc5 HH3.out
        have z53 : w3.frozen? ⟨a, 5, none⟩ = false := HH3.out.free 5
        have hlt3 : a < w3.heap.size := HH3.out.lt
        clear hHeld
        go_wp2
        go_end0
        exact emit_end hlt hne HH3.out hown3 hgrow hat hltg hw1 hw2 hp hf
      case y48 =>
        simp only [Act.put, List.getElem_toArray, List.getElem_cons_succ, List.getElem_cons_zero, List.setIfInBounds_toArray, List.set_cons_zero, List.set_cons_succ]
        go_simp
        refine hK.out _ _ ?s55 (fun hHeld => ?r55)
        case s55 => exact EmitS.of (HHa _) hp hf
        clear hK K
        try simp only [Act.put, List.getElem_toArray, List.getElem_cons_succ, List.getElem_cons_zero, List.setIfInBounds_toArray, List.set_cons_zero, List.set_cons_succ]
        refine wpAnyH_ready (rs := [4]) (by kernel_rfl) (by simp) ?_
        refine AllReadyH.cons (o := _) rfl (fun K hK => ?_) AllReadyH.nil
        simp only [Act.put, List.getElem_toArray, List.getElem_cons_succ, List.getElem_cons_zero, List.setIfInBounds_toArray, List.set_cons_zero, List.set_cons_succ]
        go_simp
        refine hK.out _ _ ?s56 (fun hHeld => ?r56)
        case s56 => exact (by assumption)
        clear hK K
        try simp only [Act.put, List.getElem_toArray, List.getElem_cons_succ, List.getElem_cons_zero, List.setIfInBounds_toArray, List.set_cons_zero, List.set_cons_succ]
        refine wpAnyH_ready (rs := [30]) (by kernel_rfl) (by simp) ?_
        refine AllReadyH.cons (o := _) rfl (fun K hK => ?_) AllReadyH.nil
        simp only [List.getElem_toArray, List.getElem_cons_succ, List.getElem_cons_zero]
        rw [if_pos (by rfl)]
        refine wp_append_lies _ _ _ _ (by rfl) B 47 i0 _ 11 136 Tryf.underlying32 hi0 hz0 hz1 hz2 rfl (by omega) L.toks n xs (by rfl) (HO2.out.alloc _) ⟨w2.heap.size, 0, none⟩ 1 1 [.slice fp fn fc, .string data, .string si, .string st, .pointer p, .string L.im, .int .i64 L.tl, .int .i64 L.tc, .int .i64 L.loc1, .int .i64 L.loc2, .int .i64 k] (by rfl) (by rfl) (World.news_of_block (cs := #[.slice fp fn fc, .string data, .string si, .string st, .pointer p, .string L.im, .int .i64 L.tl, .int .i64 L.tc, .int .i64 L.loc1, .int .i64 L.loc2, .int .i64 k]) (t := 47) (fr := (0, 0)) (heap_alloc_new w2 _)) (tok_one fp fn fc data si st p L.im L.tl L.tc L.loc1 L.loc2 k) Nat.zero_lt_one hn1 hn2 (hBa _) (w2.heap.size + 1) (by simp) ?_
        intro g cap w3 hown3 hgrow hat hltg
        have HH3 : Hid (LexAt w3 a L) := Lib.hid ((hgrow.block a (HHa _).lt (Ne.symm hne)).trans (HHa _))
        have c43 : w3.cell? ⟨a, 4, none⟩ = some L.toks := HH3.out.cell 4
        refine hK.out _ _ ?s57 (fun hHeld => ?r57)
        case s57 => exact EmitS.of HH3.out hp hf
        clear hK K
        try simp only [Act.put, List.setIfInBounds_toArray, List.set_cons_zero, List.set_cons_succ]
        refine wpAnyH_take (i := 31) (oi := _) (v := ?v58) rfl (by kernel_rfl) (by kernel_rfl) (by kernel_rfl) (fun _ _ _ h => h) (Or.inl ⟨by rfl, ?hy58⟩) hHeld ?rest58
        case hy58 => intro w hSw; (try dsimp only at hSw); go_simp <;> with_reducible rfl
        simp only [Act.put, List.getElem_toArray, List.getElem_cons_succ, List.getElem_cons_zero, List.setIfInBounds_toArray, List.set_cons_zero, List.set_cons_succ]
        refine wpAnyH_take (i := 32) (oi := _) (v := ?v59) rfl (by kernel_rfl) (by kernel_rfl) (by kernel_rfl) (fun _ _ _ h => h) (Or.inl ⟨by rfl, ?hy59⟩) hHeld ?rest59
        case hy59 => intro w hSw; (try dsimp only at hSw); go_simp <;> with_reducible rfl
        simp only [Act.put, List.getElem_toArray, List.getElem_cons_succ, List.getElem_cons_zero, List.setIfInBounds_toArray, List.set_cons_zero, List.set_cons_succ]
        refine wpAnyH_ready (rs := [33]) (by kernel_rfl) (by simp) ?_
        refine AllReadyH.cons (o := _) rfl (fun K hK => ?_) AllReadyH.nil
        simp only [Act.put, List.getElem_toArray, List.getElem_cons_succ, List.getElem_cons_zero]
        go_simp
        refine hK.out _ _ ?s60 (fun hHeld => ?r60)
        case s60 => exact EmitS.of' HH3.out hp hf _
        clear hK K
        try simp only [Act.put, List.getElem_toArray, List.getElem_cons_succ, List.getElem_cons_zero, List.setIfInBounds_toArray, List.set_cons_zero, List.set_cons_succ]
        refine wpAnyH_done (by kernel_rfl) ?_ _
        refine NoPanic.normal ?_
        have c53 : w3.cell? ⟨a, 5, none⟩ = some (.slice fp fn fc) := hc5 HH3.out
        have z53 : w3.frozen? ⟨a, 5, none⟩ = false := HH3.out.free 5
        have hlt3 : a < w3.heap.size := HH3.out.lt
        clear hHeld
        go_wp2
        go_end0
        exact emit_end hlt hne HH3.out hown3 hgrow hat hltg hw1 hw2 hp hf

theorem emitFullToken (a : Nat) (L : LexSt) (k : Int) (data si st : ByteArray) (B n : Nat) (xs : List Value) (w : World) (h : LexAt w a L) (p : Option Addr) (hp : L.src = .pointer p) (fp : Option Addr) (fn fc : Nat) (hf : L.fod = .slice fp fn fc)
    (hown : w.ownsRow B 47 11 L.toks n xs) (hne : L.toks.ownBlock ≠ some a) (hB : B ≤ w.heap.size) (hn : n ≤ 1000000000000) (hb1 : L.bn ≤ 1099511627776) (hs0 : 0 ≤ L.ls) (hs1 : L.ls ≤ L.bn) :
    Calls Tryf.prog 25 #[.pointer (some ⟨a, 0, none⟩), .int .i64 k, .string data, .string si, .string st] w (Emitted w a L B n xs data si st k) :=
  (emitFullTokenM a L k data si st B n xs w h p hp fp fn fc hf hown hne hB hn hb1 hs0 hs1).mono fun _ _ h => h.weak

end Go.Proofs.YthohpccmleodpaaFmt
