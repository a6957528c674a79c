/-
  (*bytes.Buffer).Truncate on a buffer that has only been written: the first n bytes stay.
-/
import Derived.Test.YtgdlfcgboghadaaFmtShelf
import Derived.Test.YtgdlfcgboghadaaFmtMem
import Derived.WalkSpells
import Derived.StillTailTactics
import Derived.IntWalk
import Derived.Lib.BufferOld
import Derived.Deep.AppendLies
import Derived.Laws.OwnMore
namespace Go.Proofs.YtgdlfcgboghadaaFmt
open Go Go.RowKit Go.Shelf

theorem ownsRow_take {w : World} {B : Nat} {e : TypeId} {g cap len : Nat} {xs : List Value} (h : w.ownsRow B e 1 (.slice (some ⟨g, 0, none⟩) len cap) len xs) (n : Nat) (hn : n ≤ len) :
    w.ownsRow B e 1 (.slice (some ⟨g, 0, none⟩) n cap) n (xs.take n) := by
  obtain ⟨hl, h⟩ := h
  refine ⟨by rw [List.length_take]; omega, ?_⟩
  rcases h with ⟨h, _⟩ | ⟨g', cap', cur, h, hb, hg, h1, h2, h3, h4⟩
  · simp at h
  · simp only [Value.slice.injEq, Option.some.injEq, Addr.mk.injEq, and_true, true_and] at h
    obtain ⟨rfl, rfl⟩ := h
    refine .inr ⟨g, cap, cur, rfl, hb, hg, by omega, h2, h3, ?_⟩
    rw [← h4, List.take_take]
    congr 1
    omega

set_option maxHeartbeats 800000 in
set_option maxRecDepth 100000 in
theorem truncate (B b : Nat) (bs : List Value) (n : Nat) (w : World) (h : Lib.IsBuffer 97 5 B b bs w) (hn : n ≤ bs.length) (hlim : bs.length ≤ 1099511627776) :
    Calls Tryf.prog 60 #[.pointer (some ⟨b, 0, none⟩), .int .i64 n] w fun e w' => e = .returned (.tuple #[]) ∧ Lib.IsBuffer 97 5 B b (bs.take n) w' ∧ Below B w w' := by
  by_cases h0 : n = 0
  · subst h0
    have H := Lib.hid h
    clear h
    go_enter Tryf.func60, Tryf.ntmps60
    go_wp2_with fail
    refine (Tryf.Buffer_Reset_k B b bs _ H.out).mono ?_
    rintro e w1 ⟨rfl, h1, hb1, _⟩
    go_wp2
    refine bodyPost_ret (by simp [results, Tryf.results60]; rfl) rfl ?_
    exact ⟨rfl, by simpa using h1, hb1⟩
  have h0' : ((n : Int) == 0) = false := beq_eq_false_iff_ne.2 (by omega)
  obtain ⟨hB, v, lr, hb, ho, hne⟩ := h
  obtain ⟨g, cap, rfl, hg1, hg2⟩ := ho.form (by omega)
  have hcap : bs.length ≤ cap ∧ cap ≤ maxLen := by
    rcases ho.2 with ⟨h, _⟩ | ⟨g', cap', cur, h, _, _, h1, h2, _⟩
    · simp at h
    · simp only [Value.slice.injEq, Option.some.injEq, Addr.mk.injEq, and_true, true_and] at h
      obtain ⟨rfl, rfl⟩ := h
      exact ⟨h1, h2⟩
  have hgb : g ≠ b := fun e => hne (by rw [e]; rfl)
  have hb1 : (w.setCell ⟨b, 2, none⟩ (.int .i8 0)).heap[b]? = some (.cells #[.slice (some ⟨g, 0, none⟩) bs.length cap, .int .i64 0, .int .i8 0] 97 (0, 0)) := (Lib.heap_setCell_same hb _).trans (by simp)
  have ho1 : (w.setCell ⟨b, 2, none⟩ (.int .i8 0)).ownsRow B 5 1 (.slice (some ⟨g, 0, none⟩) bs.length cap) bs.length bs := ownsRow_same ho fun g' hg' => by
    obtain rfl : g = g' := by simpa [Value.ownBlock] using hg'
    exact Below.heap_setCell w ⟨b, 2, none⟩ _ g hgb
  have hI1 : Lib.IsBuffer 97 5 B b bs (w.setCell ⟨b, 2, none⟩ (.int .i8 0)) := ⟨hB, _, _, hb1, ho1, hne⟩
  have c2 : w.cell? ⟨b, 2, none⟩ = some (.int .i8 lr) := (cell_of_row w b 2 _ _ _ hb).trans rfl
  have z2 : w.frozen? ⟨b, 2, none⟩ = false := by simp [World.frozen?, hb]
  have z0 : w.frozen? ⟨b, 0, none⟩ = false := by simp [World.frozen?, hb]
  have c0 : w.cell? ⟨b, 0, none⟩ = some (.slice (some ⟨g, 0, none⟩) bs.length cap) := (cell_of_row w b 0 _ _ _ hb).trans rfl
  have c1 : w.cell? ⟨b, 1, none⟩ = some (.int .i64 0) := (cell_of_row w b 1 _ _ _ hb).trans rfl
  have HI1 := Lib.hid hI1
  have HB1 := Lib.hid hb1
  have HO1 := Lib.hid ho1
  have hcm := hcap.2
  have hcl := hcap.1
  unfold maxLen at hcm
  have q0 : (0 : Int) ≤ (n : Int) := Int.natCast_nonneg _
  have q1 : (n : Int) ≤ (cap : Int) := by omega
  have q2 : decide ((n : Int) < 0) = false := decide_eq_false (by omega)
  have q3 : decide (bs.length < n) = false := decide_eq_false (by omega)
  clear hI1 hb1 ho1 hb ho hcap h0
  go_enter Tryf.func60, Tryf.ntmps60
  go_wp2_with fail
  refine (Tryf.Buffer_Len B b bs _ HI1.out).mono ?_
  rintro e w1 ⟨rfl, m, hw1⟩
  have hblk : w1.heap[b]? = some (.cells #[.slice (some ⟨g, 0, none⟩) bs.length cap, .int .i64 0, .int .i8 0] 97 (0, 0)) := by rw [hw1]; exact HB1.out
  have ho2 : w1.ownsRow B 5 1 (.slice (some ⟨g, 0, none⟩) bs.length cap) bs.length bs := by rw [hw1]; exact HO1.out
  have hbel : Below B w w1 := by rw [hw1]; exact drewN_below ((Below.refl _ w).setCell hB _) m
  have d0 : w1.cell? ⟨b, 0, none⟩ = some (.slice (some ⟨g, 0, none⟩) bs.length cap) := (cell_of_row w1 b 0 _ _ _ hblk).trans rfl
  have d1 : w1.cell? ⟨b, 1, none⟩ = some (.int .i64 0) := (cell_of_row w1 b 1 _ _ _ hblk).trans rfl
  have y0 : w1.frozen? ⟨b, 0, none⟩ = false := by simp [World.frozen?, hblk]
  have HBK := Lib.hid hblk
  have HO2 := Lib.hid ho2
  have q5 : (n : Int) < 9223372036854775808 := by omega
  clear hw1 hblk ho2 c0 c1 c2 z0 z2 HI1 HB1 HO1
  go_wp2_with fail
  have hwr : IntKind.i64.wrap (n : Int) = (n : Int) := Go.IntWalk.i64_in _ ⟨by omega, by omega⟩
  go_still_tail 14, (by kernel_rfl)
  change wpList _ _ _ _ _ w1.drew
  go_wp2
  go_end0
  refine ⟨rfl, ⟨hB, .slice (some ⟨g, 0, none⟩) n cap, 0, (Lib.heap_setCell_same HBK.out _).trans (by simp), ?_, ?_⟩, ?_⟩
  · have hl : (bs.take n).length = n := by rw [List.length_take]; omega
    rw [hl]
    refine ownsRow_same (ownsRow_take HO2.out n hn) fun g' hg' => ?_
    obtain rfl : g = g' := by simpa [Value.ownBlock] using hg'
    exact Below.heap_setCell w1 ⟨b, 0, none⟩ _ g hgb
  · simpa [Value.ownBlock] using hgb
  · exact Below.setCell (p := ⟨b, 0, none⟩) (w := w1.drew) (a := w) ⟨hbel.os, hbel.tape, hbel.output, hbel.size, hbel.block⟩ hB _

end Go.Proofs.YtgdlfcgboghadaaFmt
