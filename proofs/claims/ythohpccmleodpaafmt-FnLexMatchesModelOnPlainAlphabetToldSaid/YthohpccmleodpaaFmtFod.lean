/-
  MakeFodderElement at well-formed elements; addFodder; the shims that add fodder and read it.
-/
import Derived.Test.YthohpccmleodpaaFmtEmitC
import Derived.Test.YthohpccmleodpaaFmtShims
import Derived.Deep.RegionLaw
import Derived.Deep.AppendLies
import Derived.Deep.DrawnRows
import Derived.OwnWalk
import Derived.WalkSpells
namespace Go.Proofs.YthohpccmleodpaaFmt
open Go Go.RowKit Go.Shelf

theorem infoFod : (Tryf.prog.info? 80).map (fun i => (i.zero, i.size, i.bytes)) = some (some (.agg #[.slice none 0 0, .int .i64 0, .int .i64 0, .int .i64 0]), 4, 48) := by kernel_rfl

/-- A well-formed element: a line end with at most one comment, an interstitial without blanks and indent and with one comment, a paragraph with at least one. -/
def okF (k bl ind : Int) (n : Nat) : Prop := (k = 0 ∧ n ≤ 1) ∨ (k = 1 ∧ bl = 0 ∧ ind = 0 ∧ n = 1) ∨ (k = 2 ∧ 1 ≤ n)

set_option maxHeartbeats 800000 in
set_option maxRecDepth 100000 in
theorem mkFodder (k bl ind : Int) (p : Option Addr) (n c : Nat) (h : okF k bl ind n) (hn : n ≤ 1000000000000) (w : World) :
    Calls Tryf.prog 36 #[.int .i64 k, .int .i64 bl, .int .i64 ind, .slice p n c] w fun e w' => e = .returned (.agg #[.slice p n c, .int .i64 k, .int .i64 bl, .int .i64 ind]) ∧ Below w.heap.size w w' := by
  rcases h with ⟨rfl, h1⟩ | ⟨rfl, rfl, rfl, rfl⟩ | ⟨rfl, h1⟩
  · have h2 : decide (1 < (n : Int)) = false := decide_eq_false (by omega)
    go_enter Tryf.func36, Tryf.ntmps36
    go_wp2
    exact bodyPost_ret (v := .agg #[.slice p n c, .int .i64 0, .int .i64 bl, .int .i64 ind]) (by simp [results, Tryf.results36, go_sem]) rfl ⟨rfl, (Below.refl _ _).alloc (Nat.le_refl _) _⟩
  · go_enter Tryf.func36, Tryf.ntmps36
    go_wp2
    exact bodyPost_ret (v := .agg #[.slice p 1 c, .int .i64 1, .int .i64 0, .int .i64 0]) (by simp [results, Tryf.results36, go_sem]) rfl ⟨rfl, (Below.refl _ _).alloc (Nat.le_refl _) _⟩
  · have h2 : ((n : Int) == 0) = false := beq_eq_false_iff_ne.2 (by omega)
    go_enter Tryf.func36, Tryf.ntmps36
    go_wp2
    exact bodyPost_ret (v := .agg #[.slice p n c, .int .i64 2, .int .i64 bl, .int .i64 ind]) (by simp [results, Tryf.results36, go_sem]) rfl ⟨rfl, (Below.refl _ _).alloc (Nat.le_refl _) _⟩

/-- The four cells of an element. -/
def fodCells (com : Value) (k bl ind : Int) : List Value := [com, .int .i64 k, .int .i64 bl, .int .i64 ind]

theorem fod_one (p : Option Addr) (m c : Nat) (k bl ind : Int) : ∀ u ∈ ([.slice p m c, .int .i64 k, .int .i64 bl, .int .i64 ind] : List Value), u.oneCell' = true := by simp [Value.oneCell']

def Fodded (w : World) (a : Nat) (L : LexSt) (B n : Nat) (xs : List Value) (com : Value) (k bl ind : Int) (e : Ending) (w' : World) : Prop :=
  e = .returned (.tuple #[]) ∧ ∃ v, LexAt w' a { L with fod := v } ∧ w'.ownsRow B 80 4 v (n + 1) (xs ++ fodCells com k bl ind) ∧ v.ownBlock ≠ some a ∧ Kept (fun i => i = a ∨ L.fod.ownBlock = some i) w w'

/-- The same, and where the elements lie now. -/
def FoddedM (w : World) (a : Nat) (L : LexSt) (B n : Nat) (xs : List Value) (com : Value) (k bl ind : Int) (e : Ending) (w' : World) : Prop :=
  e = .returned (.tuple #[]) ∧ ∃ v, LexAt w' a { L with fod := v } ∧ w'.ownsRow B 80 4 v (n + 1) (xs ++ fodCells com k bl ind) ∧ v.ownBlock ≠ some a ∧ Kept (fun i => i = a ∨ L.fod.ownBlock = some i) w w' ∧ (L.fod.ownBlock = v.ownBlock ∨ ∀ g, v.ownBlock = some g → w.heap.size ≤ g)
theorem FoddedM.weak {w : World} {a : Nat} {L : LexSt} {B n : Nat} {xs : List Value} {com : Value} {k bl ind : Int} {e : Ending} {w' : World} (h : FoddedM w a L B n xs com k bl ind e w') : Fodded w a L B n xs com k bl ind e w' := by
  obtain ⟨h1, v, h2, h3, h4, h5, _⟩ := h
  exact ⟨h1, v, h2, h3, h4, h5⟩

theorem drew_below {B : Nat} {a w : World} (h : Below B a w) : Below B a w.drew := ⟨h.os, h.tape, h.output, h.size, h.block⟩
theorem fod_end {a : Nat} {L : LexSt} {k bl ind : Int} {com : Value} {B n : Nat} {xs : List Value} {w W2 X w3 : World} {g cap : Nat} (_hne : L.fod.ownBlock ≠ some a) (h1 : Kept (fun i => i = a ∨ L.fod.ownBlock = some i) w W2) (h2 : Kept (fun i => i = a ∨ L.fod.ownBlock = some i) W2 X) (h3 : LexAt w3 a L)
    (hown3 : w3.ownsRow B 80 4 (.slice (some ⟨g, 0, none⟩) (n + 1) cap) (n + 1) (xs ++ [com, .int .i64 k, .int .i64 bl, .int .i64 ind])) (hgrow : X.grownBy w3 L.fod.ownBlock) (hat : L.fod.ownBlock = some g ∨ w.heap.size ≤ g) :
    FoddedM w a L B n xs com k bl ind (.returned (.tuple #[])) (w3.setCell ⟨a, 5, none⟩ (.slice (some ⟨g, 0, none⟩) (n + 1) cap)) := by
  have hv4 : (Value.slice (some ⟨g, 0, none⟩) (n + 1) cap).ownBlock ≠ some a := fun e => by
    obtain ⟨cc, fz, hc⟩ := Lib.ownsRow_kind hown3 a e
    unfold LexAt at h3
    rw [h3] at hc
    cases hc
  refine ⟨rfl, _, (LexAt.setc h3 _).trans (by simp [LexSt.cells]), ?_, hv4, ?_, hat.imp id fun h g' hg => ?_⟩
  · refine ownsRow_same hown3 fun g' hg => ?_
    exact Below.heap_setCell w3 ⟨a, 5, none⟩ _ g' (fun e => hv4 (by rw [hg]; exact congrArg some e))
  · have k3 : Kept (fun i => i = a ∨ L.fod.ownBlock = some i) X w3 := Kept.ofGrown hgrow (fun i _ e => .inr e)
    have k4 : Kept (fun i => i = a ∨ L.fod.ownBlock = some i) w3 (w3.setCell ⟨a, 5, none⟩ (.slice (some ⟨g, 0, none⟩) (n + 1) cap)) := ⟨rfl, rfl, rfl, by simp [World.setCell], fun i _ hS => Below.heap_setCell w3 ⟨a, 5, none⟩ _ i (fun e => hS (.inl e))⟩
    exact ((h1.trans h2).trans k3).trans k4
  · obtain rfl : g = g' := by simpa [Value.ownBlock] using hg
    exact h

set_option maxHeartbeats 1600000 in
set_option maxRecDepth 100000 in
theorem addFodderM (a : Nat) (L : LexSt) (k bl ind : Int) (p : Option Addr) (m c : Nat) (hok : okF k bl ind m) (hm : m ≤ 1000000000000) (B n : Nat) (xs : List Value) (w : World) (h : LexAt w a L)
    (hown : w.ownsRow B 80 4 L.fod n xs) (hB : B ≤ w.heap.size) (hn : n ≤ 1000000000) :
    Calls Tryf.prog 20 #[.pointer (some ⟨a, 0, none⟩), .int .i64 k, .int .i64 bl, .int .i64 ind, .slice p m c] w (FoddedM w a L B n xs (.slice p m c) k bl ind) := by
  obtain ⟨i0, hi, hz0, hz1, hz2⟩ := info_parts infoFod
  have hlt := h.lt
  have hne : L.fod.ownBlock ≠ some a := fun e => by
    obtain ⟨cc, fz, hc⟩ := Lib.ownsRow_kind hown a e
    unfold LexAt at h
    rw [h] at hc
    cases hc
  have HA := Lib.hid h
  have HO := Lib.hid hown
  have HK := Lib.hid hok
  clear h hown hok
  go_enter Tryf.func20, Tryf.ntmps20
  go_wp2_with fail
  refine (mkFodder k bl ind p m c HK.out hm _).mono ?_
  rintro e w1 ⟨rfl, hb1⟩
  have hz1' := hb1.size
  have hb2 : Below w.heap.size w (w1.alloc (.cells #[.slice p m c, .int .i64 k, .int .i64 bl, .int .i64 ind] 80)) := hb1.alloc hz1' _
  have HX := Lib.hid (heap_alloc_new w1 (.cells #[.slice p m c, .int .i64 k, .int .i64 bl, .int .i64 ind] 80))
  have HB2 := Lib.hid hb2
  clear hb2
  go_wp2_with fail
  have hlt2 : w1.heap.size < (w1.alloc (.cells #[.slice p m c, .int .i64 k, .int .i64 bl, .int .i64 ind] 80)).heap.size := by simp
  generalize w1.alloc (.cells #[.slice p m c, .int .i64 k, .int .i64 bl, .int .i64 ind] 80) = W2 at HX HB2 hlt2
  generalize w1.heap.size = M at HX hlt2 hz1'
  have hsz2 := HB2.out.size
  have HA2 := Lib.hid (show LexAt W2 a L from (HB2.out.block a hlt).trans HA.out)
  have HO2 := Lib.hid (ownsRow_below HO.out HB2.out)
  have c5 : W2.cell? ⟨a, 5, none⟩ = some L.fod := HA2.out.cell 5
  have z5 := HA2.out.free 5
  have b0 : W2.cell? ⟨M, 0, none⟩ = some (.slice p m c) := (cell_of_row W2 M 0 _ _ _ HX.out).trans rfl
  have b1 : W2.cell? ⟨M, 1, none⟩ = some (.int .i64 k) := (cell_of_row W2 M 1 _ _ _ HX.out).trans rfl
  have b2 : W2.cell? ⟨M, 2, none⟩ = some (.int .i64 bl) := (cell_of_row W2 M 2 _ _ _ HX.out).trans rfl
  have b3 : W2.cell? ⟨M, 3, none⟩ = some (.int .i64 ind) := (cell_of_row W2 M 3 _ _ _ HX.out).trans rfl
  clear hb1
  have hn1 : n + 1 ≤ maxLen := by unfold maxLen; omega
  have hn2 : (n + 1) * 48 ≤ 140737488355328 := by omega
  have HHa : Hid (∀ o, LexAt (W2.alloc o) a L) := Lib.hid fun o => (Below.heap_alloc W2 o a HA2.out.lt).trans HA2.out
  have hltA := HA2.out.lt
  have hBo : B ≤ W2.heap.size := by omega
  go_region_law (first
      | (refine step_append_lies _ (by rfl) _ _ _ (by rfl) B 80 i0 _ 4 48 Tryf.underlying39 hi hz0 hz1 hz2 rfl (by omega) L.fod n xs (by rfl) (HO2.out.alloc _)
          ⟨W2.heap.size, 0, none⟩ 1 1 [.slice p m c, .int .i64 k, .int .i64 bl, .int .i64 ind] (by rfl) (by rfl)
          (World.news_of_block (cs := #[.slice p m c, .int .i64 k, .int .i64 bl, .int .i64 ind]) (t := 80) (fr := (0, 0)) (heap_alloc_new W2 _)) (fod_one p m c k bl ind)
          (Nat.zero_lt_one) hn1 hn2 (by simp; omega) (W2.heap.size + 1) (by simp) ?_; intro g cap w3 hown3 hgrow hat hltg; have HH3 : Hid (LexAt w3 a L) := Lib.hid ((hgrow.block a (HHa.out _).lt (Ne.symm hne)).trans (HHa.out _)); have c53 : w3.cell? ⟨a, 5, none⟩ = some L.fod := HH3.out.cell 5; have z53 : w3.frozen? ⟨a, 5, none⟩ = false := HH3.out.free 5))
  all_goals go_end0
  all_goals exact fod_end hne (Kept.ofBelow ⟨HB2.out.os, HB2.out.tape, HB2.out.output, HB2.out.size, HB2.out.block⟩) (Kept.ofBelow (drew_below ((Below.refl _ _).alloc (Nat.le_refl _) _))) HH3.out hown3 hgrow (hat.imp id (fun e => by omega))

theorem addFodder (a : Nat) (L : LexSt) (k bl ind : Int) (p : Option Addr) (m c : Nat) (hok : okF k bl ind m) (hm : m ≤ 1000000000000) (B n : Nat) (xs : List Value) (w : World) (h : LexAt w a L)
    (hown : w.ownsRow B 80 4 L.fod n xs) (hB : B ≤ w.heap.size) (hn : n ≤ 1000000000) :
    Calls Tryf.prog 20 #[.pointer (some ⟨a, 0, none⟩), .int .i64 k, .int .i64 bl, .int .i64 ind, .slice p m c] w (Fodded w a L B n xs (.slice p m c) k bl ind) :=
  (addFodderM a L k bl ind p m c hok hm B n xs w h hown hB hn).mono fun _ _ h => h.weak

end Go.Proofs.YthohpccmleodpaaFmt
