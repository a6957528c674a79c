/-
  FodderAppend of a paragraph onto an empty fodder; addFodderSafe on a lexer whose fodder is empty.
-/
import Derived.Test.YtgdlfcgboghadaaFmtFod
import Derived.Deep.RegionHeld3
import Derived.Deep.CutRange
import Derived.StillTailTactics
namespace Go.Proofs.YtgdlfcgboghadaaFmt
open Go Go.RowKit Go.Shelf

theorem cleanEnd0 (w : World) : Calls Tryf.prog 79 #[.slice none 0 0] w fun e w' => e = .returned (.bool false) ∧ w = w' := by
  go_enter Tryf.func79, Tryf.ntmps79
  go_wp2
  go_ret
  exact ⟨rfl, rfl⟩

/-- Some fodder at the lexer, and nothing else turned. -/
def Foddish (w : World) (a : Nat) (L : LexSt) (e : Ending) (w' : World) : Prop := e = .returned (.tuple #[]) ∧ (∃ v, LexAt w' a { L with fod := v }) ∧ w.grownBy w' (some a)

theorem bel0 {W V : World} (h : Below W.drew.heap.size W.drew V) : Below W.heap.size W V := ⟨h.os, h.tape, h.output, h.size, h.block⟩
theorem bela {W w1 : World} {o : Obj} (h : Below (W.alloc o).drew.heap.size (W.alloc o).drew w1) : Below W.heap.size W w1 :=
  ((Below.refl _ W).alloc (Nat.le_refl _) o).trans ((bel0 h).mono (by simp))
theorem belg {W w1 w3 : World} {o : Obj} (h : Below W.heap.size W w1) (hg : (w1.alloc o).grownBy w3 none) : Below W.heap.size W w3 :=
  (h.alloc h.size o).trans ⟨hg.os, hg.tape, hg.output, hg.size, fun i hi => hg.block i (by have := h.size; simp; omega) (fun e => by cases e)⟩

theorem fod_cut {a M : Nat} {L : LexSt} {W w1 w3 : World} {g cap : Nat} {xs : List Value} (h3 : LexAt w3 a L) (hown : w3.ownsRow 0 118 4 (.slice (some ⟨g, 0, none⟩) (0 + 1) cap) (0 + 1) ([] ++ xs)) (hx3 : Below W.heap.size W w3) (hat : (Value.slice none 0 0).ownBlock = some g ∨ g = w1.heap.size + 1) (hM : M + 1 ≤ w1.heap.size) (hl : a < w1.heap.size) :
    ∃ g' cap', LexAt (w3.setCell ⟨a, 5, none⟩ (.slice (some ⟨g, 0, none⟩) 1 cap)) a { L with fod := .slice (some ⟨g', 0, none⟩) 1 cap' } ∧ (w3.setCell ⟨a, 5, none⟩ (.slice (some ⟨g, 0, none⟩) 1 cap)).ownsRow 0 118 4 (.slice (some ⟨g', 0, none⟩) 1 cap') 1 xs ∧ W.grownBy (w3.setCell ⟨a, 5, none⟩ (.slice (some ⟨g, 0, none⟩) 1 cap)) (some a) ∧ g' ≠ a ∧ M < g' := by
  have hg : g = w1.heap.size + 1 := by
    rcases hat with h | h
    · simp [Value.ownBlock] at h
    · exact h
  refine ⟨g, cap, (LexAt.setc h3 _).trans (by simp [LexSt.cells]), ?_, Lib.grownBy_setB (grown_of_below hx3) _ _, by omega, by omega⟩
  refine ownsRow_same hown fun g' hg' => ?_
  obtain rfl : g = g' := by simpa [Value.ownBlock] using hg'
  exact Below.heap_setCell w3 ⟨a, 5, none⟩ _ g (by show g ≠ a; omega)
theorem fod_last {a g cap : Nat} {L : LexSt} {wc X w3 : World} {o : Obj} (h : LexAt wc a { L with fod := .slice (some ⟨g, 0, none⟩) 1 cap }) (hga : g ≠ a) (hX : X.heap = (wc.alloc o).heap) (hgrow : X.grownBy w3 (some g)) : LexAt w3 a { L with fod := .slice (some ⟨g, 0, none⟩) 1 cap } := by
  have hl := h.lt
  refine (hgrow.block a (by rw [hX]; simp; omega) (fun e => hga (by cases e; rfl))).trans ?_
  rw [hX]
  exact (Below.heap_alloc wc o a hl).trans h
theorem fod_done {a g M : Nat} {L : LexSt} {w W wc X w3 : World} {o : Obj} {x v : Value} (hB : Below M w W) (hM : w.heap.size = M) (hsz : W.heap.size = M + 1) (hG : W.grownBy wc (some a)) (h3 : LexAt w3 a { L with fod := x }) (hg : M < g) (hX : X.heap = (wc.alloc o).heap) (h1 : X.os = wc.os) (h2 : X.tape = wc.tape) (h4 : X.output = wc.output) (hgrow : X.grownBy w3 (some g)) :
    Foddish w a L (.returned (.tuple #[])) (w3.setCell ⟨a, 5, none⟩ v) := by
  refine ⟨rfl, ⟨v, (LexAt.setc h3 _).trans (by simp [LexSt.cells])⟩, Lib.grownBy_setB ?_ _ _⟩
  have hs := hG.size
  have hXs : wc.heap.size ≤ X.heap.size := by rw [hX]; simp
  have hgs := hgrow.size
  refine ⟨(hgrow.os.trans h1).trans (hG.os.trans hB.os), (hgrow.tape.trans h2).trans (hG.tape.trans hB.tape), (hgrow.output.trans h4).trans (hG.output.trans hB.output), by omega, fun k hk hne => ?_⟩
  refine (hgrow.block k (by omega) (fun e => by cases e; omega)).trans ?_
  rw [hX]
  exact ((Below.heap_alloc wc o k (by omega)).trans (hG.block k (by omega) hne)).trans (hB.block k (by omega))

set_option maxHeartbeats 3200000 in
set_option maxRecDepth 100000 in
theorem fodAppend (a : Nat) (L : LexSt) (bl ind : Int) (p : Option Addr) (m c : Nat) (hm : 1 ≤ m) (hmm : m ≤ 1000000000000) (w : World) (h : LexAt w a L) (hf : L.fod = .slice none 0 0) :
    Calls Tryf.prog 65 #[.pointer (some ⟨a, 5, none⟩), .agg #[.slice p m c, .int .i64 2, .int .i64 bl, .int .i64 ind]] w (Foddish w a L) := by
  obtain ⟨i0, hi, hz0, hz1, hz2⟩ := info_parts infoFod
  have hlt := h.lt
  obtain ⟨W, hW⟩ : ∃ W, W = w.alloc (.cells #[.slice p m c, .int .i64 2, .int .i64 bl, .int .i64 ind] 118) := ⟨_, rfl⟩
  have hB : Below w.heap.size w W := by rw [hW]; exact (Below.refl _ w).alloc (Nat.le_refl _) _
  have HA := Lib.hid (show LexAt W a L from (hB.block a hlt).trans h)
  have c5 : W.cell? ⟨a, 5, none⟩ = some (.slice none 0 0) := (HA.out.cell 5).trans (by rw [← hf]; rfl)
  have z5 : W.frozen? ⟨a, 5, none⟩ = false := HA.out.free 5
  have hX : W.heap[w.heap.size]? = some (.cells #[.slice p m c, .int .i64 2, .int .i64 bl, .int .i64 ind] 118 (0, 0)) := by rw [hW]; exact heap_alloc_new w _
  have HX := Lib.hid hX
  generalize hMM : w.heap.size = M at *
  have b0 : W.cell? ⟨M, 0, none⟩ = some (.slice p m c) := (cell_of_row W M 0 _ _ _ hX).trans rfl
  have b1 : W.cell? ⟨M, 1, none⟩ = some (.int .i64 2) := (cell_of_row W M 1 _ _ _ hX).trans rfl
  have b2 : W.cell? ⟨M, 2, none⟩ = some (.int .i64 bl) := (cell_of_row W M 2 _ _ _ hX).trans rfl
  have b3 : W.cell? ⟨M, 3, none⟩ = some (.int .i64 ind) := (cell_of_row W M 3 _ _ _ hX).trans rfl
  have hsz : W.heap.size = M + 1 := by rw [hW]; simp [hMM]
  have HB := Lib.hid hB
  have HM := Lib.hid hMM
  clear h hX hB hMM
  go_enter Tryf.func65, Tryf.ntmps65
  go_upto_region 1 with fail
  rw [← hW, HM.out]
  clear hW
  have HHa : Hid (∀ w', Below W.heap.size W w' → LexAt w' a L) := Lib.hid fun w' hb => (hb.block a (HA.out.lt)).trans HA.out
  go_upto_region 8 with (go_at_call 79; refine (cleanEnd0 _).mono ?_; rintro e w' ⟨rfl, rfl⟩)
  go_cut [] from 65 to 75 (fun wc => Hid (∃ g cap, LexAt wc a { L with fod := .slice (some ⟨g, 0, none⟩) 1 cap } ∧ wc.ownsRow 0 118 4 (.slice (some ⟨g, 0, none⟩) 1 cap) 1 [.slice (some ⟨M + 1, 0, none⟩) 0 0, .int .i64 0, .int .i64 0, .int .i64 ind] ∧ W.grownBy wc (some a) ∧ g ≠ a ∧ M < g))
  case first =>
    go_region_law (first
        | (go_simp; go_at_call 61; refine (mkFodder 0 0 ind _ 0 _ (.inl ⟨rfl, by omega⟩) (by omega) _).mono ?_; rintro e w1 ⟨rfl, hb1⟩; have hx1 : Below W.heap.size W w1 := (by exact bela hb1); have h51 : w1.cell? ⟨a, 5, none⟩ = some (.slice none 0 0) := (hx1.cell (p := ⟨a, 5, none⟩) HA.out.lt).trans c5; have hl1 : a < w1.heap.size := Nat.lt_of_lt_of_le HA.out.lt hx1.size)
        | (refine step_append_lies _ (by rfl) _ _ _ (by rfl) 0 118 i0 _ 4 48 Tryf.underlying39 hi hz0 hz1 hz2 rfl (by omega) (.slice none 0 0) 0 [] (by rfl) (World.ownsRow_nil _ _ _ _)
            ⟨w1.heap.size, 0, none⟩ 1 1 [.slice (some ⟨M + 1, 0, none⟩) 0 0, .int .i64 0, .int .i64 0, .int .i64 ind] (by rfl) (by rfl)
            (World.news_of_block (cs := #[.slice (some ⟨M + 1, 0, none⟩) 0 0, .int .i64 0, .int .i64 0, .int .i64 ind]) (t := 118) (fr := (0, 0)) (heap_alloc_new w1 _)) (fod_one _ _ _ _ _ _)
            (Nat.zero_lt_one) (by unfold maxLen; omega) (by omega) (Nat.zero_le _) (w1.heap.size + 1) (by simp) ?_; intro g cap w3 hown3 hgrow hat hltg; have hx3 : Below W.heap.size W w3 := (by exact belg hx1 hgrow); have HH3 : Hid (LexAt w3 a L) := Lib.hid (HHa.out _ hx3); have c53 : w3.cell? ⟨a, 5, none⟩ = some L.fod := HH3.out.cell 5; have z53 : w3.frozen? ⟨a, 5, none⟩ = false := HH3.out.free 5))
    all_goals
      have HF3 := Lib.hid (fod_cut HH3.out hown3 hx3 hat (show M + 1 ≤ w1.heap.size by rw [← hsz]; exact hx1.size) hl1)
      go_wp2_with fail
      go_meet
      exact HF3
  case rest =>
  obtain ⟨g, cap, hA, hO, hG, hga, hgM⟩ := hcut.out
  have HA1 := Lib.hid hA
  have HO1 := Lib.hid hO
  have c51 : wc.cell? ⟨a, 5, none⟩ = some (.slice (some ⟨g, 0, none⟩) 1 cap) := hA.cell 5
  have z51 : wc.frozen? ⟨a, 5, none⟩ = false := hA.free 5
  have hX1 : wc.heap[M]? = some (.cells #[.slice p m c, .int .i64 2, .int .i64 bl, .int .i64 ind] 118 (0, 0)) := (hG.block M (by omega) (fun e => by cases e; omega)).trans HX.out
  have d0 : wc.cell? ⟨M, 0, none⟩ = some (.slice p m c) := (cell_of_row wc M 0 _ _ _ hX1).trans rfl
  have d1 : wc.cell? ⟨M, 1, none⟩ = some (.int .i64 2) := (cell_of_row wc M 1 _ _ _ hX1).trans rfl
  have d2 : wc.cell? ⟨M, 2, none⟩ = some (.int .i64 bl) := (cell_of_row wc M 2 _ _ _ hX1).trans rfl
  have d3 : wc.cell? ⟨M, 3, none⟩ = some (.int .i64 ind) := (cell_of_row wc M 3 _ _ _ hX1).trans rfl
  have hszc := hG.size
  have hlc : a < wc.heap.size := hA.lt
  have hMc : M < wc.heap.size := by omega
  have HG := Lib.hid hG
  clear hA hO hX1 hcut c5 z5 b0 b1 b2 b3 hG
  go_wp2_with fail
  go_region_law (first
      | (refine step_append_lies _ (by rfl) _ _ _ (by rfl) 0 118 i0 _ 4 48 Tryf.underlying39 hi hz0 hz1 hz2 rfl (by omega) (.slice (some ⟨g, 0, none⟩) 1 cap) 1 _ (by rfl) (HO1.out.alloc _)
          ⟨wc.heap.size, 0, none⟩ 1 1 [.slice p m c, .int .i64 2, .int .i64 bl, .int .i64 ind] (by rfl) (by rfl)
          (World.news_of_block (cs := #[.slice p m c, .int .i64 2, .int .i64 bl, .int .i64 ind]) (t := 118) (fr := (0, 0)) (heap_alloc_new wc _)) (fod_one _ _ _ _ _ _)
          (Nat.zero_lt_one) (by unfold maxLen; omega) (by omega) (Nat.zero_le _) (wc.heap.size + 1) (by simp) ?_; intro g3 cap3 w3 hown3 hgrow hat hltg; have HG3 := Lib.hid (fod_last HA1.out hga (by rfl) hgrow); have c53 : w3.cell? ⟨a, 5, none⟩ = some (.slice (some ⟨g, 0, none⟩) 1 cap) := HG3.out.cell 5; have z53 : w3.frozen? ⟨a, 5, none⟩ = false := HG3.out.free 5))
  all_goals go_end0
  all_goals exact fod_done HB.out HM.out hsz HG.out HG3.out hgM (by rfl) (by rfl) (by rfl) (by rfl) hgrow

set_option maxHeartbeats 800000 in
set_option maxRecDepth 100000 in
theorem fodSafe (a : Nat) (L : LexSt) (bl ind : Int) (p : Option Addr) (m c : Nat) (hm : 1 ≤ m) (hmm : m ≤ 1000000000000) (w : World) (h : LexAt w a L) (hf : L.fod = .slice none 0 0) :
    Calls Tryf.prog 40 #[.pointer (some ⟨a, 0, none⟩), .int .i64 2, .int .i64 bl, .int .i64 ind, .slice p m c] w (Foddish w a L) := by
  have H := Lib.hid h
  have HF := Lib.hid hf
  have hlt := h.lt
  clear h hf
  go_enter Tryf.func40, Tryf.ntmps40
  go_wp2_with fail
  refine (mkFodder 2 bl ind p m c (.inr (.inr ⟨rfl, hm⟩)) hmm _).mono ?_
  rintro e w1 ⟨rfl, hb1⟩
  have hz1 := hb1.size
  have HA1 := Lib.hid (show LexAt w1 a L from (hb1.block a hlt).trans H.out)
  go_wp2_with fail
  have hX := heap_alloc_new w1 (.cells #[.slice p m c, .int .i64 2, .int .i64 bl, .int .i64 ind] 118)
  have hB2 : Below w.heap.size w (w1.alloc (.cells #[.slice p m c, .int .i64 2, .int .i64 bl, .int .i64 ind] 118)) := hb1.alloc hz1 _
  generalize w1.alloc (.cells #[.slice p m c, .int .i64 2, .int .i64 bl, .int .i64 ind] 118) = W2 at hX hB2
  generalize w1.heap.size = M at hX
  have b0 : W2.cell? ⟨M, 0, none⟩ = some (.slice p m c) := (cell_of_row W2 M 0 _ _ _ hX).trans rfl
  have b1 : W2.cell? ⟨M, 1, none⟩ = some (.int .i64 2) := (cell_of_row W2 M 1 _ _ _ hX).trans rfl
  have b2 : W2.cell? ⟨M, 2, none⟩ = some (.int .i64 bl) := (cell_of_row W2 M 2 _ _ _ hX).trans rfl
  have b3 : W2.cell? ⟨M, 3, none⟩ = some (.int .i64 ind) := (cell_of_row W2 M 3 _ _ _ hX).trans rfl
  have HA2 := Lib.hid (show LexAt W2 a L from (hB2.block a hlt).trans H.out)
  have HB2 := Lib.hid hB2
  clear hX hB2 hb1 HA1
  go_still_tail 4, (by kernel_rfl)
  change wpList _ _ _ _ _ W2.drew
  go_wp2_with fail
  refine (fodAppend a L bl ind p m c hm hmm _ (by exact HA2.out) HF.out).mono ?_
  rintro e w4 ⟨rfl, ⟨v, h4⟩, hg4⟩
  have H4 := Lib.hid h4
  clear h4
  go_wp2
  go_end0
  exact ⟨rfl, ⟨v, H4.out⟩, ⟨hg4.os.trans HB2.out.os, hg4.tape.trans HB2.out.tape, hg4.output.trans HB2.out.output, Nat.le_trans HB2.out.size hg4.size, fun k hk hne => (hg4.block k (Nat.lt_of_lt_of_le hk HB2.out.size) hne).trans (HB2.out.block k hk)⟩⟩

end Go.Proofs.YtgdlfcgboghadaaFmt
