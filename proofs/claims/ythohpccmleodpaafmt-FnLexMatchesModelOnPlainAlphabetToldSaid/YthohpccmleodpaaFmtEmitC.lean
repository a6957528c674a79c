/-
  emitToken: one token whose data is the input between token start and cursor; then the token start moves to the cursor.
-/
import Derived.Test.YthohpccmleodpaaFmtEmitB
namespace Go.Proofs.YthohpccmleodpaaFmt
open Go Go.RowKit Go.Shelf
attribute [local go_sem ↓] Go.wp_at_zero Go.wp_at_succ

/-- What emitToken leaves. -/
def EmittedTok (w : World) (a : Nat) (L : LexSt) (B n : Nat) (xs : List Value) (t : Nat) (k : Int) (e : Ending) (w' : World) : Prop :=
  e = .returned (.tuple #[]) ∧ ∃ g cap M, LexAt w' a ({ L with toks := .slice (some ⟨g, 0, none⟩) (n + 1) cap, fod := .slice (some ⟨M, 0, none⟩) 0 0 } : LexSt).reset ∧
    w'.ownsRow B 47 11 (.slice (some ⟨g, 0, none⟩) (n + 1) cap) (n + 1) (xs ++ tokCells L.fod (L.inp.extract t L.bn) ⟨#[]⟩ ⟨#[]⟩ L.src L.im L.tl L.tc L.loc1 L.loc2 k) ∧
    g ≠ a ∧ (L.toks.ownBlock = some g ∨ w.heap.size ≤ g) ∧ Kept (fun i => i = a ∨ L.toks.ownBlock = some i) w w' ∧ w.heap.size ≤ M ∧ M ≠ g ∧ w'.heap[M]? = some (.cells #[] 80 (0, 0))

set_option maxHeartbeats 3200000 in
set_option maxRecDepth 100000 in
theorem emitToken (a : Nat) (L : LexSt) (k : Int) (B n : Nat) (xs : List Value) (w : World) (h : LexAt w a L) (p : Option Addr) (hp : L.src = .pointer p) (fp : Option Addr) (fn fc : Nat) (hf : L.fod = .slice fp fn fc)
    (hown : w.ownsRow B 47 11 L.toks n xs) (hne : L.toks.ownBlock ≠ some a) (hB : B ≤ w.heap.size) (hn : n ≤ 1000000000000) (hb1 : L.bn ≤ 1099511627776) (hs0 : 0 ≤ L.ls) (hs1 : L.ls ≤ L.bn)
    (t : Nat) (ht : L.ts = t) (ht1 : t ≤ L.bn) (ht2 : L.bn ≤ L.inp.size) :
    Calls Tryf.prog 21 #[.pointer (some ⟨a, 0, none⟩), .int .i64 k] w (EmittedTok w a L B n xs t k) := by
  have hlt := h.lt
  have HH := Lib.hid h
  have HO := Lib.hid hown
  have HB := Lib.hid (And.intro hs0 hs1)
  have c2 : w.cell? ⟨a, 2, none⟩ = some (.string L.inp) := h.cell 2
  have c6 : w.cell? ⟨a, 6, none⟩ = some (.int .i64 t) := (h.cell 6).trans (by rw [← ht]; rfl)
  have c10 : w.cell? ⟨a, 10, none⟩ = some (.int .i64 L.bn) := h.cell 10
  have q0 : (0 : Int) ≤ (t : Int) := Int.natCast_nonneg _
  have q1 : (t : Int) ≤ (L.bn : Int) := by omega
  have q2 : (L.bn : Int) ≤ (L.inp.size : Int) := by omega
  clear h hown hs0 hs1
  go_enter Tryf.func21, Tryf.ntmps21
  go_wp2_with fail
  go_region_held3 (fun w => w.cell? ⟨a, 2, none⟩ = some (.string L.inp) ∧ w.cell? ⟨a, 6, none⟩ = some (.int .i64 t) ∧ w.cell? ⟨a, 10, none⟩ = some (.int .i64 L.bn))
    (first
      | exact ⟨c2, c6, c10⟩
      | exact ⟨HH1.out.cell 2, (HH1.out.cell 6).trans (congrArg (fun z => some (Value.int .i64 z)) ht), HH1.out.cell 10⟩)
    (first
      | (go_at_call 25; refine (emitFullTokenM a L k _ _ _ B n xs _ (by exact HH.out) p hp fp fn fc hf (by exact HO.out) hne (by exact hB) hn hb1 HB.out.1 HB.out.2).mono ?_; rintro e w1 ⟨rfl, g, cap, M, hL1, hown1, hga, hg, hk, hm1, hm2, hm3⟩; have HH1 := Lib.hid hL1; have HM := Lib.hid (And.intro hm1 (And.intro hm2 hm3)); clear hm1 hm2 hm3))
  have HO1 := Lib.hid hown1
  have HK1 := Lib.hid hk
  clear hown1 hk hL1
  go_wp2_with fail
  refine (resetTokenStart a _ _ HH1.out hb1 HB.out.1 HB.out.2).mono ?_
  rintro e w2 ⟨rfl, h2, hg2⟩
  go_wp2
  go_end0
  have G1 : Kept (fun i => i = a ∨ L.toks.ownBlock = some i) w w1 := ⟨HK1.out.os, HK1.out.tape, HK1.out.output, HK1.out.size, HK1.out.block⟩
  refine ⟨rfl, g, cap, M, h2, ?_, hga, hg, G1.trans (Kept.ofGrown hg2 fun i _ e => .inl (by cases e; rfl)), HM.out.1, HM.out.2.1, (hg2.block M (Array.getElem?_eq_some_iff.1 HM.out.2.2).1 (fun e => by have h9 : w.heap.size ≤ M := HM.out.1; have h8 : a = M := (Option.some.inj e).symm; omega)).trans HM.out.2.2⟩
  exact ownsRow_same HO1.out fun g' hg' => by
    obtain rfl : g = g' := by simpa [Value.ownBlock] using hg'
    obtain ⟨c, fz, hc⟩ := Lib.ownsRow_kind HO1.out g hg'
    exact hg2.block g (Array.getElem?_eq_some_iff.1 hc).1 (fun e => hga (by cases e; rfl))

end Go.Proofs.YthohpccmleodpaaFmt
