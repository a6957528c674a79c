/-
  BuildSource, at every text (valid UTF-8 or not) of at most 2^40 bytes: a new Source that holds the file name and the lines 'srcLines s'; of what was there nothing has turned.
-/
import Derived.Test.YthohpccmleodpaaFmtBsrcA
import Derived.Test.YthohpccmleodpaaFmtShelf
import Derived.Test.YthohpccmleodpaaFmtMem
import Derived.Test.YthohpccmleodpaaFmtLines
import Derived.WalkSpells
import Derived.Lib.BufferRune
import Derived.Lib.QuoteLoop
import Derived.Lib.DecodeN
import Derived.Lib.SmallJoins
namespace Go.Proofs.YthohpccmleodpaaFmt
open Go Go.RowKit Go.Shelf

set_option maxHeartbeats 6400000 in
set_option maxRecDepth 1000000 in
theorem buildSource (d s : ByteArray) (hs : s.size ≤ 1099511627776) (w : World) :
    Calls Tryf.prog 33 #[.string d, .string s] w fun e w' => ∃ (N : Nat) (v : Value), e = .returned (.pointer (some ⟨N, 0, none⟩)) ∧ w.heap.size ≤ N ∧ w'.heap[N]? = some (.cells #[.string d, v] 103 (0, 0)) ∧
      w'.ownsRow w.heap.size 9 1 v (srcLines s).length ((srcLines s).map strV) ∧ Below w.heap.size w w' := by
  obtain ⟨i0, hi, hz0, hz1, hz2⟩ := info_parts infoStr
  go_enter Tryf.func33, Tryf.ntmps33
  go_wp2
  go_loopw [5] (fun v wr => ∃ (pos fuel : Nat) (cur : List UInt8) (ls : List (List UInt8)), Lib.IsBuffer 85 5 w.heap.size w.heap.size (Lib.byteCells cur) wr ∧ wr.heap[w.heap.size + 1]? = some (.stringIter s pos) ∧ Below w.heap.size w wr ∧ wr.ownsRow w.heap.size 9 1 v ls.length (ls.map strV) ∧ Hid (ls ++ linesFrom s fuel pos cur = srcLines s) ∧ s.size ≤ pos + fuel ∧ cur.length ≤ 4 * pos ∧ ls.length ≤ pos ∧ pos ≤ s.size) (fun _ wr => s.size - wr.iterPos (w.heap.size + 1))
  case atStart =>
    refine ⟨0, s.size, [], [], (Lib.fresh_isBuffer 85 5 w).alloc _, ?_, ((Below.refl _ w).alloc (Nat.le_refl _) _).alloc (by simp) _, World.ownsRow_nil _ _ _ _, rfl, by omega, by simp, by simp, by omega⟩
    have := World.iter_heap (w.alloc (.cells #[.slice none 0 0, .int .i64 0, .int .i8 0] 85)) s 0
    simpa using this
  case round =>
    obtain ⟨pos, fuel, cur, ls, hI, hit, hbw, hown, hacc, hfu, hal, hll, hps⟩ := hrel
    have hsz : w.heap.size + 1 < wr.heap.size := (Array.getElem?_eq_some_iff.1 hit).1
    by_cases hp : pos < s.size
    · have hnx : ∀ ty, (Instr.next (.pointer (some ⟨w.heap.size + 1, 0, none⟩)) true ty).run Tryf.prog wr = _ := fun ty => Lib.run_next_any_at wr (w.heap.size + 1) s pos ty hit hp
      have hwd := width_pos s pos hp
      have hwl := width_le s pos hp
      have hd1 := decode_le s pos
      have hI2 := hI.iterAt hit (pos + (Utf8.decode s pos).2)
      have hit2 := Lib.iterAt_heap wr (w.heap.size + 1) s pos (pos + (Utf8.decode s pos).2) hit
      have hbw2 := Lib.below_iterAt hbw (k := w.heap.size + 1) (by omega) s (pos + (Utf8.decode s pos).2)
      have hsz2 : w.heap.size ≤ (wr.iterAt (w.heap.size + 1) s (pos + (Utf8.decode s pos).2)).heap.size := by rw [Lib.iterAt_size]; omega
      have hown2 := ownsRow_iter hown hit (pos + (Utf8.decode s pos).2)
      obtain ⟨f, rfl⟩ : ∃ f, fuel = f + 1 := ⟨fuel - 1, by omega⟩
      have hl4 := Lib.runeCells_le ((Utf8.decode s pos).1 : Int)
      rw [Lib.runeCells_length] at hl4
      by_cases hr : (Utf8.decode s pos).1 = 10
      · have hrb : (((Utf8.decode s pos).1 : Int) == 10) = true := beq_iff_eq.2 (by omega)
        have hln := linesFrom_nl s f pos cur hp hr
        have HR := Lib.hid hr
        have HLN := Lib.hid hln
        clear hr hln
        go_wp2_with (go_at_call 37; refine (Tryf.Buffer_WriteRune_k w.heap.size w.heap.size _ _ (by omega) (by omega) _ hI2 hsz2 (Lib.byteCells_one _) (by rw [Lib.byteCells_length]; omega)).mono ?_; rintro e W1 ⟨rfl, h1, b1, k1⟩)
        rw [← Lib.byteCells_encodeRune, ← Lib.byteCells_append] at h1
        obtain ⟨cs1, fr1, hblk⟩ := isBuffer_block hI2
        have hown3 := ownsRow_others hown2 k1 hblk (by decide) (by decide)
        have hit3 := k1.iter hit2 (by omega)
        have hs1 := b1.size
        clear hblk hI2 hown2 hit2
        go_wp2_with fail
        refine (Tryf.Buffer_String w.heap.size w.heap.size _ W1 h1).mono ?_
        rintro e W2 ⟨rfl, n, rfl⟩
        go_wp2_with (at_builtin; refine wpList_append_own _ rfl _ _ 25 rfl w.heap.size 9 i0 (.string ⟨#[]⟩) 1 16 Tryf.underlying25 hi hz0 hz1 hz2 rfl (by decide) u5 ls.length (ls.map strV) rfl ?hown ⟨W1.heap.size, 0, none⟩ 1 1 [strV (cur ++ Lib.encodeRune (Utf8.decode s pos).1)] rfl rfl ?c1 ?c2 ?c3 ?c4 ?c5 ?_)
        case hown => exact World.ownsRow.alloc (w := W1.drewN n) hown3 _
        case c1 => exact cell_one_new _ _ _
        case c2 => exact fun u hu => by simp at hu; subst hu; rfl
        case c3 => unfold maxLen; omega
        case c4 => omega
        case c5 => simp; omega
        intro v' w1 hown4 hg4 _
        have hsz4 := hg4.size
        simp at hsz4
        have hkind : ∀ g, u5.ownBlock = some g → ∃ c fz, ((W1.drewN n).alloc (.cells #[.string ⟨(cur ++ Lib.encodeRune (Utf8.decode s pos).1).toArray⟩] 9)).heap[g]? = some (.cells c 9 fz) := Lib.ownsRow_kind (World.ownsRow.alloc (w := W1.drewN n) hown3 _)
        have hI4 : Lib.IsBuffer 85 5 w.heap.size w.heap.size (Lib.byteCells (cur ++ Lib.encodeRune (Utf8.decode s pos).1)) w1 :=
          isBuffer_grown (Lib.IsBuffer.alloc (w := W1.drewN n) h1 _) hg4 (fun g hg => by obtain ⟨c, fz, hc⟩ := hkind g hg; exact ⟨c, fz, 9, hc, by decide, by decide⟩)
        have hit4 : w1.heap[w.heap.size + 1]? = some (.stringIter s (pos + (Utf8.decode s pos).2)) := by
          have e0 : ((W1.drewN n).alloc (.cells #[.string ⟨(cur ++ Lib.encodeRune (Utf8.decode s pos).1).toArray⟩] 9)).heap[w.heap.size + 1]? = some (.stringIter s (pos + (Utf8.decode s pos).2)) := by
            rw [Below.heap_alloc _ _ _ (by show w.heap.size + 1 < W1.heap.size; rw [Lib.iterAt_size] at hs1; omega)]; exact hit3
          rw [hg4.block _ (Array.getElem?_eq_some_iff.1 e0).1 (fun e1 => by obtain ⟨c, fz, hc⟩ := hkind _ e1.symm; rw [e0] at hc; cases hc)]
          exact e0
        have hb4 : Below w.heap.size w w1 := Below.grown (Below.alloc (drewN_below (hbw2.trans b1) n) (by show w.heap.size ≤ W1.heap.size; omega) _) hg4 (by simp; omega) (fun k hk => (World.ownsRow.lt (World.ownsRow.alloc (w := W1.drewN n) hown3 (.cells #[.string ⟨(cur ++ Lib.encodeRune (Utf8.decode s pos).1).toArray⟩] 9)) k hk).1)
        clear hkind hg4 hown3 hit3 h1
        go_wp2_with fail
        refine (Tryf.Buffer_Reset_k w.heap.size w.heap.size _ w1 hI4).mono ?_
        rintro e W3 ⟨rfl, h3, b3, k3⟩
        obtain ⟨cs2, fr2, hblk2⟩ := isBuffer_block hI4
        have hown5 := ownsRow_others hown4 k3 hblk2 (by decide) (by decide)
        have hit5 := k3.iter hit4 (by omega)
        go_wp2
        go_roundw
        case rel =>
          refine ⟨pos + (Utf8.decode s pos).2, f, [], ls ++ [cur ++ Lib.encodeRune (Utf8.decode s pos).1], h3, hit5, hb4.trans b3, ?_, ?_, by omega, by simp, by simp; omega, hwl⟩
          · have e1 : (ls ++ [cur ++ Lib.encodeRune (Utf8.decode s pos).1]).length = ls.length + 1 := by simp
            rw [e1, List.map_append]; exact hown5
          · have := hacc.out
            rw [HLN.out] at this
            show _ = _
            rw [← this]; simp
        case measure =>
          simp only [World.iterPos, hit5, hit]
          omega
      · have hrb : (((Utf8.decode s pos).1 : Int) == 10) = false := beq_eq_false_iff_ne.2 (by omega)
        have hln := linesFrom_other s f pos cur hp hr
        have HLN := Lib.hid hln
        clear hr hln
        go_wp2_with (go_at_call 37; refine (Tryf.Buffer_WriteRune_k w.heap.size w.heap.size _ _ (by omega) (by omega) _ hI2 hsz2 (Lib.byteCells_one _) (by rw [Lib.byteCells_length]; omega)).mono ?_; rintro e W1 ⟨rfl, h1, b1, k1⟩)
        rw [← Lib.byteCells_encodeRune, ← Lib.byteCells_append] at h1
        obtain ⟨cs1, fr1, hblk⟩ := isBuffer_block hI2
        have hown3 := ownsRow_others hown2 k1 hblk (by decide) (by decide)
        have hit3 := k1.iter hit2 (by omega)
        go_wp2
        go_roundw
        case rel =>
          refine ⟨pos + (Utf8.decode s pos).2, f, cur ++ Lib.encodeRune (Utf8.decode s pos).1, ls, h1, hit3, hbw2.trans b1, hown3, ?_, by omega, by simp; omega, by omega, hwl⟩
          have := hacc.out
          rw [HLN.out] at this
          exact this
        case measure =>
          simp only [World.iterPos, hit3, hit]
          omega
    · have hnx : ∀ ty, (Instr.next (.pointer (some ⟨w.heap.size + 1, 0, none⟩)) true ty).run Tryf.prog wr = _ := fun ty => Lib.run_next_end_at wr (w.heap.size + 1) s pos ty hit hp
      have hln := linesFrom_end s fuel pos cur hp
      have hacc' := hacc.out
      rw [hln] at hacc'
      have HL := Lib.hid hacc'
      clear hacc hln hacc'
      go_wp2_with fail
      refine (Tryf.Buffer_String w.heap.size w.heap.size cur wr hI).mono ?_
      rintro e W1 ⟨rfl, n, rfl⟩
      go_wp2_with (at_builtin; refine wpList_append_own _ rfl _ _ 25 rfl w.heap.size 9 i0 (.string ⟨#[]⟩) 1 16 Tryf.underlying25 hi hz0 hz1 hz2 rfl (by decide) u5 ls.length (ls.map strV) rfl ?hown ⟨wr.heap.size, 0, none⟩ 1 1 [strV (cur ++ [10])] rfl rfl ?c1 ?c2 ?c3 ?c4 ?c5 ?_)
      case hown => exact World.ownsRow.alloc (w := wr.drewN n) hown _
      case c2 => exact fun u hu => by simp at hu; subst hu; rfl
      case c3 => unfold maxLen; omega
      case c4 => omega
      case c5 => simp; omega
      case c1 => rw [strV_snoc]; exact cell_one_new _ _ _
      intro v' w1 hown4 hg4 _
      have hsz4 := hg4.size
      simp at hsz4
      have hb4 : Below w.heap.size w w1 := Below.grown (Below.alloc (drewN_below hbw n) (by show w.heap.size ≤ wr.heap.size; omega) _) hg4 (by simp; omega) (fun k hk => (World.ownsRow.lt (World.ownsRow.alloc (w := wr.drewN n) hown (.cells #[.string ((⟨cur.toArray⟩ : ByteArray) ++ ⟨#[10]⟩)] 9)) k hk).1)
      obtain ⟨g, cap, hv⟩ := Joins.ownsRow_form hown4 (by omega)
      subst hv
      clear hg4 hown hI hit hbw
      go_wp2
      go_ret
      have e1 : ls.length + 1 = (srcLines s).length := by rw [← HL.out]; simp
      have e2 : ls.map strV ++ [strV (cur ++ [10])] = (srcLines s).map strV := by rw [← HL.out]; simp
      rw [e2] at hown4
      refine ⟨w1.heap.size, .slice (some ⟨g, 0, none⟩) (ls.length + 1) cap, rfl, by omega, ?_, ?_, hb4.alloc (by omega) _⟩
      · exact heap_alloc_new w1 _
      · rw [← e1]; exact hown4.alloc _

end Go.Proofs.YthohpccmleodpaaFmt
