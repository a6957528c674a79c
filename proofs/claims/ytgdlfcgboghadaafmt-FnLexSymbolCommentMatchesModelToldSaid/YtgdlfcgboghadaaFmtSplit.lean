/-
  lineSplit: the pieces between a text's newlines, each stripped.
-/
import Derived.Test.YtgdlfcgboghadaaFmtStrip
import Derived.Test.YtgdlfcgboghadaaFmtBsrcA
namespace Go.Proofs.YtgdlfcgboghadaaFmt
open Go Go.RowKit Go.Shelf

/-- o is what strip leaves of a line without its newline. -/
def StripOf (mg : Int) (l : List UInt8) (o : ByteArray) : Prop := ∃ c, l = c ++ [10] ∧ ∃ i j, Stripped (runesOf ⟨c.toArray⟩) mg i j ∧ o = runesBytes (((runesOf ⟨c.toArray⟩).drop i).take (j - i))
inductive Pw (mg : Int) : List (List UInt8) → List ByteArray → Prop
  | nil : Pw mg [] []
  | snoc {as1 : List (List UInt8)} {bs1 : List ByteArray} {a : List UInt8} {b : ByteArray} : Pw mg as1 bs1 → StripOf mg a b → Pw mg (as1 ++ [a]) (bs1 ++ [b])
theorem Pw.len {mg : Int} {as1 : List (List UInt8)} {bs1 : List ByteArray} (h : Pw mg as1 bs1) : as1.length = bs1.length := by
  induction h with
  | nil => rfl
  | snoc _ _ ih => simp [ih]
theorem ownsRow_old {w w' : World} {B base : Nat} {e : TypeId} {size : Nat} {v : Value} {n : Nat} {xs : List Value} (h : w.ownsRow base e size v n xs) (hb : Below B w w') (hB : w.heap.size ≤ B) : w'.ownsRow base e size v n xs := by
  refine ownsRow_same h fun g hg => ?_
  exact hb.block g (Nat.lt_of_lt_of_le (World.ownsRow.lt h g hg).2 hB)

set_option maxHeartbeats 6400000 in
set_option maxRecDepth 1000000 in
theorem lineSplit (s : ByteArray) (mg : Int) (hs : s.size ≤ 1048576) (w : World) :
    Calls Tryf.prog 39 #[.string s, .int .i64 mg] w fun e w' => ∃ (v : Value) (os : List ByteArray), e = .returned v ∧ Pw mg (srcLines s) os ∧ w'.ownsRow w.heap.size 9 1 v os.length (os.map Value.string) ∧ Below w.heap.size w w' := by
  obtain ⟨i0, hi, hz0, hz1, hz2⟩ := info_parts infoStr
  go_enter Tryf.func39, Tryf.ntmps39
  go_wp2
  go_loopw [5] (fun v wr => ∃ (pos fuel : Nat) (cur : List UInt8) (ds : List (List UInt8)) (ls : List ByteArray), Lib.IsBuffer 97 5 w.heap.size w.heap.size (Lib.byteCells cur) wr ∧ wr.heap[w.heap.size + 1]? = some (.stringIter s pos) ∧ Below w.heap.size w wr ∧ wr.ownsRow w.heap.size 9 1 v ls.length (ls.map Value.string) ∧ Hid (Pw mg ds ls) ∧ Hid (ds ++ linesFrom s fuel pos cur = srcLines s) ∧ s.size ≤ pos + fuel ∧ cur.length ≤ 4 * pos ∧ ls.length ≤ pos ∧ pos ≤ s.size) (fun _ wr => s.size - wr.iterPos (w.heap.size + 1))
  case atStart =>
    refine ⟨0, s.size, [], [], [], (Lib.fresh_isBuffer 97 5 w).alloc _, ?_, ((Below.refl _ w).alloc (Nat.le_refl _) _).alloc (by simp) _, World.ownsRow_nil _ _ _ _, Lib.hid .nil, rfl, by omega, by simp, by simp, by omega⟩
    have := World.iter_heap (w.alloc (.cells #[.slice none 0 0, .int .i64 0, .int .i8 0] 97)) s 0
    simpa using this
  case round =>
    obtain ⟨pos, fuel, cur, ds, ls, hI, hit, hbw, hown, HPW, hacc, hfu, hal, hll, hps⟩ := hrel
    have hsz : w.heap.size + 1 < wr.heap.size := (Array.getElem?_eq_some_iff.1 hit).1
    by_cases hp : pos < s.size
    · have hnx : ∀ ty, (Instr.next (.pointer (some ⟨w.heap.size + 1, 0, none⟩)) true ty).run Tryf.prog wr = _ := fun ty => Lib.run_next_any_at wr (w.heap.size + 1) s pos ty hit hp
      have hwd := width_pos s pos hp
      have hwl := width_le s pos hp
      have hd1 := decode_le s pos
      have hI2 := hI.iterAt hit (pos + (Utf8.decode s pos).2)
      have hit2 := Lib.iterAt_heap wr (w.heap.size + 1) s pos (pos + (Utf8.decode s pos).2) hit
      have hbw2 := Lib.below_iterAt hbw (k := w.heap.size + 1) (by omega) s (pos + (Utf8.decode s pos).2)
      have hsz2 : w.heap.size ≤ (wr.iterAt (w.heap.size + 1) s (pos + (Utf8.decode s pos).2)).heap.size := by rw [Lib.iterAt_size]; omega
      have hown2 := ownsRow_iter hown hit (pos + (Utf8.decode s pos).2)
      obtain ⟨f, rfl⟩ : ∃ f, fuel = f + 1 := ⟨fuel - 1, by omega⟩
      have hl4 := Lib.runeCells_le ((Utf8.decode s pos).1 : Int)
      rw [Lib.runeCells_length] at hl4
      by_cases hr : (Utf8.decode s pos).1 = 10
      · have hrb : (((Utf8.decode s pos).1 : Int) == 10) = true := beq_iff_eq.2 (by omega)
        have HCS := Lib.hid (hI2)
        go_wp2_with fail
        refine (Tryf.Buffer_String w.heap.size w.heap.size cur _ hI2).mono ?_
        rintro e W1 ⟨rfl, n, rfl⟩
        go_wp2_with fail
        refine (strip _ mg (by simp [ByteArray.size]; omega) _).mono ?_
        rintro e W2 ⟨⟨si, sj, hst, rfl⟩, hb2⟩
        obtain ⟨X, hX⟩ : ∃ X, X = (wr.iterAt (w.heap.size + 1) s (pos + (Utf8.decode s pos).2)).drewN n := ⟨_, rfl⟩
        rw [← hX] at hb2
        have hXh : X.heap = ((wr.iterAt (w.heap.size + 1) s (pos + (Utf8.decode s pos).2))).heap := by rw [hX]; rfl
        have hXs : X.heap.size = ((wr.iterAt (w.heap.size + 1) s (pos + (Utf8.decode s pos).2))).heap.size := by rw [hXh]
        have hI3 : Lib.IsBuffer 97 5 w.heap.size w.heap.size (Lib.byteCells cur) W2 := isBuffer_grown (w := X) (by rw [hX]; exact hI2) (grown_of_below (row := none) hb2) (fun g e => by cases e)
        have hit3 : W2.heap[w.heap.size + 1]? = some (.stringIter s (pos + (Utf8.decode s pos).2)) := by rw [hb2.block _ (by rw [hXh]; exact (Array.getElem?_eq_some_iff.1 hit2).1), hXh]; exact hit2
        have hown3 : W2.ownsRow w.heap.size 9 1 u5 ls.length (ls.map Value.string) := ownsRow_old (w := X) (by rw [hX]; exact ownsRow_same hown2 fun _ _ => rfl) hb2 (Nat.le_refl _)
        have hbw3 : Below w.heap.size w W2 := by have h1 := drewN_below hbw2 n; rw [← hX] at h1; exact h1.trans (hb2.mono h1.size)
        have HSO : Hid (StripOf mg (cur ++ [10]) (runesBytes (((runesOf ⟨cur.toArray⟩).drop si).take (sj - si)))) := Lib.hid ⟨cur, rfl, si, sj, hst, rfl⟩
        generalize runesBytes (((runesOf ⟨cur.toArray⟩).drop si).take (sj - si)) = o at HSO
        have hszW : w.heap.size + 1 < W2.heap.size := (Array.getElem?_eq_some_iff.1 hit3).1
        clear hst hb2 hX hXh hXs
        go_wp2_with (at_builtin; refine wpList_append_own _ rfl _ _ 88 rfl w.heap.size 9 i0 (.string ⟨#[]⟩) 1 16 Tryf.underlying88 hi hz0 hz1 hz2 rfl (by decide) u5 ls.length (ls.map Value.string) rfl ?hown ⟨W2.heap.size, 0, none⟩ 1 1 [Value.string o] rfl rfl ?c1 ?c2 ?c3 ?c4 ?c5 ?_)
        case hown => exact World.ownsRow.alloc hown3 _
        case c1 => exact cell_one_new _ _ _
        case c2 => exact fun u hu => by simp at hu; subst hu; rfl
        case c3 => unfold maxLen; omega
        case c4 => omega
        case c5 => simp; omega
        intro v' w1 hown4 hg4 _
        have hsz4 := hg4.size
        simp at hsz4
        have hkind : ∀ g, u5.ownBlock = some g → ∃ c fz, (W2.alloc (.cells #[.string o] 9)).heap[g]? = some (.cells c 9 fz) := Lib.ownsRow_kind (World.ownsRow.alloc hown3 _)
        have hb4 : Below w.heap.size w w1 := Below.grown (Below.alloc hbw3 (by omega) _) hg4 (by simp; omega) (fun k hk => (World.ownsRow.lt (World.ownsRow.alloc hown3 (.cells #[.string o] 9)) k hk).1)
        have hI4 : Lib.IsBuffer 97 5 w.heap.size w.heap.size (Lib.byteCells cur) w1 :=
          isBuffer_grown (Lib.IsBuffer.alloc hI3 _) hg4 (fun g hg => by obtain ⟨c, fz, hc⟩ := hkind g hg; exact ⟨c, fz, 9, hc, by decide, by decide⟩)
        have hit4 : w1.heap[w.heap.size + 1]? = some (.stringIter s (pos + (Utf8.decode s pos).2)) := by
          have e0 : (W2.alloc (.cells #[.string o] 9)).heap[w.heap.size + 1]? = some (.stringIter s (pos + (Utf8.decode s pos).2)) := by
            rw [Below.heap_alloc _ _ _ hszW]; exact hit3
          rw [hg4.block _ (Array.getElem?_eq_some_iff.1 e0).1 (fun e1 => by obtain ⟨c, fz, hc⟩ := hkind _ e1.symm; rw [e0] at hc; cases hc)]
          exact e0
        have hln := linesFrom_nl s f pos cur hp hr
        have HLN := Lib.hid hln
        have HR := Lib.hid hr
        clear hkind hg4 hown3 hit3 hI3 hln
        go_wp2_with fail
        refine (Tryf.Buffer_Reset_k w.heap.size w.heap.size _ w1 hI4).mono ?_
        rintro e W3 ⟨rfl, h3, b3, k3⟩
        obtain ⟨cs2, fr2, hblk2⟩ := isBuffer_block hI4
        have hown5 := ownsRow_others hown4 k3 hblk2 (by decide) (by decide)
        have hit5 := k3.iter hit4 (by omega)
        go_wp2
        go_roundw
        case rel =>
          refine ⟨pos + (Utf8.decode s pos).2, f, [], ds ++ [cur ++ [10]], ls ++ [o], h3, hit5, hb4.trans b3, ?_, Lib.hid (.snoc HPW.out HSO.out), ?_, by omega, by simp, by simp; omega, hwl⟩
          · have e1 : (ls ++ [o]).length = ls.length + 1 := by simp
            rw [e1, List.map_append]; exact hown5
          · have := hacc.out
            rw [HLN.out, HR.out] at this
            show _ = _
            rw [← this, List.append_assoc]
            rfl
        case measure =>
          simp only [World.iterPos, hit5, hit]
          omega
      · have hrb : (((Utf8.decode s pos).1 : Int) == 10) = false := beq_eq_false_iff_ne.2 (by omega)
        have hln := linesFrom_other s f pos cur hp hr
        have HLN := Lib.hid hln
        clear hr hln
        go_wp2_with (go_at_call 43; refine (Tryf.Buffer_WriteRune_k w.heap.size w.heap.size _ _ (by omega) (by omega) _ hI2 hsz2 (Lib.byteCells_one _) (by rw [Lib.byteCells_length]; omega)).mono ?_; rintro e W1 ⟨rfl, h1, b1, k1⟩)
        rw [← Lib.byteCells_encodeRune, ← Lib.byteCells_append] at h1
        obtain ⟨cs1, fr1, hblk⟩ := isBuffer_block hI2
        have hown3 := ownsRow_others hown2 k1 hblk (by decide) (by decide)
        have hit3 := k1.iter hit2 (by omega)
        go_wp2
        go_roundw
        case rel =>
          refine ⟨pos + (Utf8.decode s pos).2, f, cur ++ Lib.encodeRune (Utf8.decode s pos).1, ds, ls, h1, hit3, hbw2.trans b1, hown3, HPW, ?_, by omega, by simp; omega, by omega, hwl⟩
          have := hacc.out
          rw [HLN.out] at this
          exact this
        case measure =>
          simp only [World.iterPos, hit3, hit]
          omega
    · have hnx : ∀ ty, (Instr.next (.pointer (some ⟨w.heap.size + 1, 0, none⟩)) true ty).run Tryf.prog wr = _ := fun ty => Lib.run_next_end_at wr (w.heap.size + 1) s pos ty hit hp
      have HCS := Lib.hid (hI)
      go_wp2_with fail
      refine (Tryf.Buffer_String w.heap.size w.heap.size cur _ hI).mono ?_
      rintro e W1 ⟨rfl, n, rfl⟩
      go_wp2_with fail
      refine (strip _ mg (by simp [ByteArray.size]; omega) _).mono ?_
      rintro e W2 ⟨⟨si, sj, hst, rfl⟩, hb2⟩
      obtain ⟨X, hX⟩ : ∃ X, X = wr.drewN n := ⟨_, rfl⟩
      rw [← hX] at hb2
      have hXh : X.heap = (wr).heap := by rw [hX]; rfl
      have hXs : X.heap.size = (wr).heap.size := by rw [hXh]
      have hI3 : Lib.IsBuffer 97 5 w.heap.size w.heap.size (Lib.byteCells cur) W2 := isBuffer_grown (w := X) (by rw [hX]; exact hI) (grown_of_below (row := none) hb2) (fun g e => by cases e)
      have hit3 : W2.heap[w.heap.size + 1]? = some (.stringIter s pos) := by rw [hb2.block _ (by rw [hXh]; exact (Array.getElem?_eq_some_iff.1 hit).1), hXh]; exact hit
      have hown3 : W2.ownsRow w.heap.size 9 1 u5 ls.length (ls.map Value.string) := ownsRow_old (w := X) (by rw [hX]; exact ownsRow_same hown fun _ _ => rfl) hb2 (Nat.le_refl _)
      have hbw3 : Below w.heap.size w W2 := by have h1 := drewN_below hbw n; rw [← hX] at h1; exact h1.trans (hb2.mono h1.size)
      have HSO : Hid (StripOf mg (cur ++ [10]) (runesBytes (((runesOf ⟨cur.toArray⟩).drop si).take (sj - si)))) := Lib.hid ⟨cur, rfl, si, sj, hst, rfl⟩
      generalize runesBytes (((runesOf ⟨cur.toArray⟩).drop si).take (sj - si)) = o at HSO
      have hszW : w.heap.size + 1 < W2.heap.size := (Array.getElem?_eq_some_iff.1 hit3).1
      clear hst hb2 hX hXh hXs
      go_wp2_with (at_builtin; refine wpList_append_own _ rfl _ _ 88 rfl w.heap.size 9 i0 (.string ⟨#[]⟩) 1 16 Tryf.underlying88 hi hz0 hz1 hz2 rfl (by decide) u5 ls.length (ls.map Value.string) rfl ?hown ⟨W2.heap.size, 0, none⟩ 1 1 [Value.string o] rfl rfl ?c1 ?c2 ?c3 ?c4 ?c5 ?_)
      case hown => exact World.ownsRow.alloc hown3 _
      case c1 => exact cell_one_new _ _ _
      case c2 => exact fun u hu => by simp at hu; subst hu; rfl
      case c3 => unfold maxLen; omega
      case c4 => omega
      case c5 => simp; omega
      intro v' w1 hown4 hg4 _
      have hsz4 := hg4.size
      simp at hsz4
      have hkind : ∀ g, u5.ownBlock = some g → ∃ c fz, (W2.alloc (.cells #[.string o] 9)).heap[g]? = some (.cells c 9 fz) := Lib.ownsRow_kind (World.ownsRow.alloc hown3 _)
      have hb4 : Below w.heap.size w w1 := Below.grown (Below.alloc hbw3 (by omega) _) hg4 (by simp; omega) (fun k hk => (World.ownsRow.lt (World.ownsRow.alloc hown3 (.cells #[.string o] 9)) k hk).1)
      obtain ⟨g, cap, hv⟩ := Joins.ownsRow_form hown4 (by omega)
      subst hv
      have hln := linesFrom_end s fuel pos cur hp
      have hacc2 := hacc.out
      rw [hln] at hacc2
      have HL := Lib.hid hacc2
      clear hkind hg4 hown3 hit3 hI3 hln hacc2 hacc hown hI hit hbw
      go_wp2
      go_ret
      refine ⟨_, ls ++ [o], rfl, ?_, ?_, hb4⟩
      · rw [← HL.out]; exact .snoc HPW.out HSO.out
      · rw [List.length_append, List.map_append]; exact hown4

end Go.Proofs.YtgdlfcgboghadaaFmt
