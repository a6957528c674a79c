/-
  lexSymbol on a block comment: it ends behind the first closing mark and the blanks that follow; with none it is refused.
-/
import Derived.Test.YtgdlfcgboghadaaFmtSymL
import Derived.Test.YtgdlfcgboghadaaFmtErr
import Derived.Deep.CutBlock
import Derived.Deep.QuietTactic
namespace Go.Proofs.YtgdlfcgboghadaaFmt
open Go Go.RowKit Go.Shelf

/-- Where the comment ends: behind j steps stands the closing mark. -/
structure Closing (s : ByteArray) (L : LexSt) (j : Nat) : Prop where
  two : 2 ≤ (L.steps j).bn
  no : NoClose s (L.steps j).bn
  star : (L.steps j).rune = 42
  slash : (L.steps (j + 1)).rune = 47
def SymBlk (w : World) (s : ByteArray) (a : Nat) (L : LexSt) (e : Ending) (w' : World) : Prop :=
  ((e = .returned .nilIface ∧ ∃ j k v, Closing s L j ∧ WsRun s (L.steps (j + 2)).bn k ∧ ((L.steps (j + 2)).steps k).bn = (L.steps (j + 2)).bn + k ∧ LexAt w' a { (L.steps (j + 2)).steps k with fod := v }) ∨
   ((∃ v, e = .returned (.iface 112 v)) ∧ NoClose s s.size ∧ ∃ j, LexAt w' a (L.steps j))) ∧ w.grownBy w' (some a)

def curB (w : World) (a : Nat) : Nat := match w.cell? ⟨a, 10, none⟩ with | some (.int _ z) => z.toNat | _ => 0
theorem curB_at {w : World} {a : Nat} {L : LexSt} (h : LexAt w a L) : curB w a = L.bn := by
  unfold curB
  rw [h.cell 10]
  simp [LexSt.cells]

theorem alloc_le {w wa : World} {o : Obj} (h : w.heap.size ≤ wa.heap.size) : w.heap.size ≤ (wa.alloc o).heap.size := Nat.le_trans h ((Below.refl wa.heap.size wa).alloc (Nat.le_refl _) o).size
theorem byte_ext (s : ByteArray) (Q i : Nat) (h : Q ≤ s.size) (hi : i < Q) : byteAt (s.extract 0 Q) i = byteAt s i := by
  have hz : (s.extract 0 Q).size = Q := by rw [ByteArray.size_extract]; omega
  rw [← byte_of_get _ i (by omega), ← byte_of_get s i (by omega)]
  congr 1
  rw [ByteArray.getElem_extract]
  congr 1
  omega
theorem grown_fod2 {a : Nat} {L : LexSt} {w w2 w3 : World} {o : Obj} {v : Value} (h : w.grownBy w2 (some a)) (hv : ∀ i, v.ownBlock = some i → w.heap.size ≤ i) (hk : Kept (fun i => i = a ∨ ({ L with fod := v } : LexSt).fod.ownBlock = some i) (w2.alloc o) w3) : w.grownBy w3 (some a) := by
  have hs : w2.heap.size ≤ (w2.alloc o).heap.size := ((Below.refl w2.heap.size w2).alloc (Nat.le_refl _) o).size
  refine ⟨hk.os.trans h.os, hk.tape.trans h.tape, hk.output.trans h.output, Nat.le_trans h.size (Nat.le_trans hs hk.size), fun i hi hne => ?_⟩
  refine (hk.block i (Nat.lt_of_lt_of_le hi (Nat.le_trans h.size hs)) ?_).trans ((Below.heap_alloc w2 o i (Nat.lt_of_lt_of_le hi h.size)).trans (h.block i hi hne))
  rintro (e | e)
  · exact hne (by rw [e])
  · have := hv i e
    omega
theorem linesFrom_len (s : ByteArray) : ∀ (f pos : Nat) (cur : List UInt8), (linesFrom s f pos cur).length ≤ f + 1
  | 0, pos, cur => by
    by_cases h : pos < s.size
    · simp [linesFrom]
    · rw [linesFrom_end s 0 pos cur h]
      simp
  | f + 1, pos, cur => by
    by_cases h : pos < s.size
    · by_cases hn : (Utf8.decode s pos).1 = 10
      · rw [linesFrom_nl s f pos cur h hn, List.length_cons]
        have := linesFrom_len s f (pos + (Utf8.decode s pos).2) []
        omega
      · rw [linesFrom_other s f pos cur h hn]
        have := linesFrom_len s f (pos + (Utf8.decode s pos).2) (cur ++ Lib.encodeRune (Utf8.decode s pos).1)
        omega
    · rw [linesFrom_end s (f + 1) pos cur h]
      simp
theorem srcLines_ct (s : ByteArray) : (srcLines s).length ≤ s.size + 1 := linesFrom_len s s.size 0 []
def notEof (v : Value) : Nat := if intOf v = -1 then 0 else 1
theorem notEof_int (k : IntKind) (r : Int) : notEof (.int k r) = if r = -1 then 0 else 1 := rfl
theorem msr {s : ByteArray} {L : LexSt} (hi : Inv s L) (j : Nat) (h : (L.steps j).rune ≠ -1) :
    2 * (s.size - (L.steps (j + 1 + 1)).bn) + (if (L.steps (j + 1)).rune = -1 then 0 else 1) < 2 * (s.size - (L.steps (j + 1)).bn) + 1 := by
  have hi1 := hi.steps (j + 1)
  have hle := hi1.le
  by_cases hb : (L.steps (j + 1)).bn < s.size
  · have := (step_bytes hi1 hb).1
    have e : (L.steps (j + 1 + 1)).bn = (L.steps (j + 1)).step.bn := rfl
    split <;> omega
  · have hr : (L.steps (j + 1)).rune = -1 := LexSt.rune_end (by rw [hi1.inp]; omega)
    have e : (L.steps (j + 1 + 1)).bn = (L.steps (j + 1)).bn := by
      show (L.steps (j + 1)).step.bn = _
      rw [LexSt.step_end (by rw [hi1.inp]; omega)]
    rw [if_pos hr, e]
    omega

set_option maxHeartbeats 6400000 in
set_option maxRecDepth 100000 in
theorem symBlock (s : ByteArray) (a : Nat) (L : LexSt) (w : World) (h : LexAt w a L) (hi : Inv s L) (hs : s.size ≤ 1048576) (hbn : L.bn = 0) (hts : L.ts = 0) (hf : L.fod = .slice none 0 0) (p : Option Addr) (hp : L.src = .pointer p) (hc : L.rune = 47) (hc2 : L.step.rune = 42) (hT : Lib.Utf8Tabs 3 4 w) (ha0 : 3 ≠ a) (ha1 : 4 ≠ a) :
    Calls Tryf.prog 23 #[.pointer (some ⟨a, 0, none⟩)] w (SymBlk w s a L) := by
  obtain ⟨g0, g1⟩ := tabs_lt hT
  have HT := Lib.hid hT
  have HI := Lib.hid hi
  have HI1 := Lib.hid hi.step
  have HFD := Lib.hid hf
  have HA := Lib.hid h
  have HC := Lib.hid hc
  have HC2 := Lib.hid hc2
  have HP := Lib.hid hp
  have HTS := Lib.hid hts
  have hlt := h.lt
  have hz0 := (rune_byte hi (c := 47) (by omega)).1 hc
  have hb1 : L.step.bn = 1 := by
    have := (step_bytes hi hz0.1).2.1 (by omega)
    omega
  have hl1 : L.step.ls = 0 := by
    rw [hi.step.ls, hb1]
    have : byteAt s 0 ≠ 10 := by rw [hbn] at hz0; omega
    rw [nle_no this]
    rfl
  have c9 : w.cell? ⟨a, 9, none⟩ = some (.bool L.fresh) := h.cell 9
  clear hT h hi hf hc hc2 hp hts
  go_enter Tryf.func23, Tryf.ntmps23
  go_wp2_with fail
  refine (next_any a L _ HA.out (by rw [HI.out.inp]; omega) (HI.out.lnb (by omega)).1 (HI.out.lnb (by omega)).2 HT.out).mono ?_
  rw [HC.out]
  rintro e w1 ⟨rfl, hA1, hg1⟩
  have hsz1 := hg1.size
  have HA1 := Lib.hid hA1
  have HT1 := Lib.hid (tabs_kept HT.out hg1 g0 g1 ha0 ha1)
  clear hA1 c9
  go_wp2_with fail
  refine (peek_any a L.step _ (by exact HA1.out) (by exact HT1.out)).mono ?_
  rw [HC2.out]
  rintro e w2 ⟨rfl, hb2⟩
  have hsz2 := hb2.size
  have HT2 := Lib.hid (tabs_below HT1.out hb2 (by omega) (by omega))
  have HA2 := Lib.hid (show LexAt w2 a L.step from (hb2.block a HA1.out.lt).trans HA1.out)
  go_wp2_with fail
  refine (peek_any a L.step _ (by exact HA2.out) (by exact HT2.out)).mono ?_
  rw [HC2.out]
  rintro e w3 ⟨rfl, hb3⟩
  have hsz3 := hb3.size
  have HT3 := Lib.hid (tabs_below HT2.out hb3 (by omega) (by omega))
  have HA3 := Lib.hid (show LexAt w3 a L.step from (hb3.block a HA2.out.lt).trans HA2.out)
  have hg3 : w.grownBy w3 (some a) := Lib.grownBy_below (Lib.grownBy_below hg1 hb2) hb3
  have c7 : w3.cell? ⟨a, 7, none⟩ = some (.int .i64 L.step.tl) := HA3.out.cell 7
  have c8 : w3.cell? ⟨a, 8, none⟩ = some (.int .i64 L.step.tc) := HA3.out.cell 8
  have c10 : w3.cell? ⟨a, 10, none⟩ = some (.int .i64 1) := (HA3.out.cell 10).trans (by show some (Value.int .i64 (L.step.bn : Int)) = _; rw [hb1]; rfl)
  have c12 : w3.cell? ⟨a, 12, none⟩ = some (.int .i64 0) := (HA3.out.cell 12).trans (by show some (Value.int .i64 L.step.ls) = _; rw [hl1])
  clear hb2 hb3
  go_wp2_with fail
  go_quiet (fail)
  obtain ⟨W4, hW4⟩ : ∃ W4, W4 = w3.drewN nq := ⟨_, rfl⟩
  rw [← hW4]
  have hB4 : Below w3.heap.size w3 W4 := by rw [hW4]; exact drewN_below (Below.refl _ _) nq
  have hz4 := hB4.size
  have HA4 := Lib.hid (show LexAt W4 a L.step from (hB4.block a HA3.out.lt).trans HA3.out)
  have HT4 := Lib.hid (tabs_below HT3.out hB4 (by omega) (by omega))
  have hg4 : w.grownBy W4 (some a) := Lib.grownBy_below hg3 hB4
  have c7 : W4.cell? ⟨a, 7, none⟩ = some (.int .i64 L.step.tl) := HA4.out.cell 7
  have c8 : W4.cell? ⟨a, 8, none⟩ = some (.int .i64 L.step.tc) := HA4.out.cell 8
  clear hW4 c10 c12 hB4
  go_wp2_with fail
  obtain ⟨W5, hW5⟩ : ∃ W5, W5 = W4.alloc (.cells #[.int .i64 L.step.tl, .int .i64 L.step.tc] 42) := ⟨_, rfl⟩
  rw [← hW5]
  have hB5 : Below W4.heap.size W4 W5 := by rw [hW5]; exact (Below.refl _ W4).alloc (Nat.le_refl _) _
  have hX5 : W5.heap[W4.heap.size]? = some (.cells #[.int .i64 L.step.tl, .int .i64 L.step.tc] 42 (0, 0)) := by rw [hW5]; exact heap_alloc_new W4 _
  have hz5 : W5.heap.size = W4.heap.size + 1 := by rw [hW5]; simp
  have HA5 := Lib.hid (show LexAt W5 a L.step from (hB5.block a HA4.out.lt).trans HA4.out)
  have HT5 := Lib.hid (tabs_below HT4.out hB5 (by omega) (by omega))
  have hg5 : w.grownBy W5 (some a) := Lib.grownBy_below hg4 hB5
  have hak : a < W4.heap.size := HA4.out.lt
  have HX5 := Lib.hid hX5
  generalize W4.heap.size = kb at hX5 HX5 hz5 hak hz4 hB5
  clear hW5 hB5 c7 c8 hX5
  refine (next_any a L.step _ HA5.out (by rw [HI1.out.inp]; omega) (HI1.out.lnb (by omega)).1 (HI1.out.lnb (by omega)).2 HT5.out).mono ?_
  rintro e w6 ⟨rfl, hA6, hg6⟩
  have HA6 := Lib.hid (show LexAt w6 a (L.steps 2) from hA6)
  have hz6 := hg6.size
  have HT6 := Lib.hid (tabs_kept HT5.out hg6 (by omega) (by omega) ha0 ha1)
  clear hA6
  go_wp2_with fail
  refine (next_any a (L.steps 2) _ (by exact HA6.out) (by rw [(HI.out.steps 2).inp]; omega) ((HI.out.steps 2).lnb (by omega)).1 ((HI.out.steps 2).lnb (by omega)).2 (by exact HT6.out)).mono ?_
  rintro e w7 ⟨rfl, hA7, hg7⟩
  have HA7 := Lib.hid (show LexAt w7 a (L.steps 3) from hA7)
  have HT7 := Lib.hid (tabs_kept HT6.out hg7 (by omega) (by omega) ha0 ha1)
  have hg7' : W5.grownBy w7 (some a) := hg6.trans hg7
  have h2b : (L.steps 2).bn = 2 := by
    obtain ⟨b1, b2⟩ := (rune_byte HI1.out (c := 42) (by omega)).1 HC2.out
    have := (step_bytes HI1.out b1).2.1 (by omega)
    show L.step.step.bn = 2
    omega
  have HN0 : Hid (NoClose s (L.steps 2).bn) := Lib.hid (by rw [h2b]; exact NoClose.zero s)
  have hb20 : 2 ≤ (L.steps 2).bn := by omega
  clear hA7 hg6 hg7 h2b
  go_upto_block 0 with fail
  go_cut [] from 88 to 101 (fun wc => Hid (∃ j, Closing s L j ∧ LexAt wc a (L.steps (j + 1)) ∧ w.grownBy wc (some a) ∧ Lib.Utf8Tabs 3 4 wc))
  case first =>
    go_wp2_with fail
    go_loopw [11] (fun r wr => ∃ j : Nat, r = .int .i32 (L.steps j).rune ∧ Hid (LexAt wr a (L.steps (j + 1))) ∧ Hid (NoClose s (L.steps j).bn) ∧ 2 ≤ (L.steps j).bn ∧ W5.grownBy wr (some a) ∧ Hid (Lib.Utf8Tabs 3 4 wr)) (fun r wr => 2 * (s.size - curB wr a) + notEof r)
    case atStart => exact ⟨2, rfl, HA7, HN0, hb20, hg7', HT7⟩
    case round =>
      obtain ⟨j, rfl, HAj, HN, h2j, hgj, HTj⟩ := hrel
      have hzj := hgj.size
      have HCU := Lib.hid (curB_at HAj.out)
      have hXj : wr.heap[kb]? = some (.cells #[.int .i64 L.step.tl, .int .i64 L.step.tc] 42 (0, 0)) := (hgj.block kb (by omega) (fun e => by cases e; omega)).trans HX5.out
      have k0 : wr.cell? ⟨kb, 0, none⟩ = some (.int .i64 L.step.tl) := (cell_of_row wr kb 0 _ _ _ hXj).trans rfl
      have k1 : wr.cell? ⟨kb, 1, none⟩ = some (.int .i64 L.step.tc) := (cell_of_row wr kb 1 _ _ _ hXj).trans rfl
      generalize hr : (L.steps j).rune = r
      have HR := Lib.hid hr
      clear hr hXj
      by_cases h42 : r = 42
      · have hneg : ¬ r = -1 := by omega
        have hin := rune_not_eof (HI.out.steps j) (by rw [HR.out]; exact hneg)
        have n42 : (r != 42) = false := by rw [h42]; rfl
        have nn1 : (r == -1) = false := by rw [h42]; rfl
        have HQ42 := Lib.hid h42
        have HNG := Lib.hid hneg
        clear h42 hneg
        go_wp2_with fail
        refine (peek_any a (L.steps (j + 1)) _ (by exact HAj.out) (by exact HTj.out)).mono ?_
        rintro e w8 ⟨rfl, hb8⟩
        have hz8 := hb8.size
        have HAP := Lib.hid (show LexAt w8 a (L.steps (j + 1)) from (hb8.block a HAj.out.lt).trans HAj.out)
        have HTP := Lib.hid (tabs_below HTj.out hb8 (by omega) (by omega))
        have hgP : W5.grownBy w8 (some a) := Lib.grownBy_below hgj hb8
        clear hb8 k0 k1
        by_cases h47 : (L.steps (j + 1)).rune = 47
        · have n47 : ((L.steps (j + 1)).rune != 47) = false := by rw [h47]; rfl
          have HE := Lib.hid (Closing.mk h2j HN.out (HR.out.trans HQ42.out) h47)
          clear h47
          go_wp2_with fail
          go_meet
          exact Lib.hid ⟨j, HE.out, HAP.out, hg5.trans hgP, HTP.out⟩
        · have n47 : ((L.steps (j + 1)).rune != 47) = true := bne_iff_ne.2 h47
          have HNX : Hid (NoClose s (L.steps (j + 1)).bn) := Lib.hid (HN.out.next (HI.out.steps j) hin (fun e => h47 e.2))
          have hnx2 : 2 ≤ (L.steps (j + 1)).bn := by have := (step_bytes (HI.out.steps j) hin).1; show 2 ≤ (L.steps j).step.bn; omega
          clear h47
          go_wp2_with fail
          refine (next_any a (L.steps (j + 1)) _ (by exact HAP.out) (by rw [(HI.out.steps (j + 1)).inp]; omega) ((HI.out.steps (j + 1)).lnb (by omega)).1 ((HI.out.steps (j + 1)).lnb (by omega)).2 (by exact HTP.out)).mono ?_
          rintro e w8 ⟨rfl, ha8, hg8⟩
          have HA8 := Lib.hid (show LexAt w8 a (L.steps (j + 1 + 1)) from ha8)
          have HT8 := Lib.hid (tabs_kept HTP.out hg8 (by omega) (by omega) ha0 ha1)
          have hg8' : W5.grownBy w8 (some a) := hgP.trans hg8
          clear ha8 hg8
          go_wp2
          go_roundw
          case rel => exact ⟨j + 1, rfl, HA8, HNX, hnx2, hg8', HT8⟩
          case measure =>
            rw [curB_at HA8.out, HCU.out]
            simp only [notEof_int]
            rw [if_neg HNG.out]
            exact msr HI.out j (by rw [HR.out]; exact HNG.out)
      · have n42 : (r != 42) = true := bne_iff_ne.2 h42
        by_cases hneg : r = -1
        · have nn1 : (r == -1) = true := by rw [hneg]; rfl
          have hend := rune_eof (HI.out.steps j) (HR.out.trans hneg)
          have HNO : Hid (NoClose s s.size) := Lib.hid (by rw [← hend]; exact HN.out)
          clear hneg h42
          go_wp2_with fail
          refine (mkErr a (L.steps (j + 1)) _ (by exact HAj.out) p ((steps_keeps L (j + 1)).2.2.2.1.trans HP.out) _ _ _).mono ?_
          rintro e w9 ⟨⟨v9, rfl⟩, hb9⟩
          have HA9 := Lib.hid (show LexAt w9 a (L.steps (j + 1)) from (hb9.block a HAj.out.lt).trans HAj.out)
          have hg9 : w.grownBy w9 (some a) := Lib.grownBy_below (hg5.trans hgj) hb9
          clear hb9
          go_wp2
          go_ret
          exact ⟨.inr ⟨⟨_, rfl⟩, HNO.out, j + 1, HA9.out⟩, hg9⟩
        · have nn1 : (r == -1) = false := beq_eq_false_iff_ne.2 hneg
          have hin := rune_not_eof (HI.out.steps j) (by rw [HR.out]; exact hneg)
          have HNX : Hid (NoClose s (L.steps (j + 1)).bn) := Lib.hid (HN.out.next (HI.out.steps j) hin (fun e => h42 (by rw [← HR.out]; exact e.1)))
          have hnx2 : 2 ≤ (L.steps (j + 1)).bn := by have := (step_bytes (HI.out.steps j) hin).1; show 2 ≤ (L.steps j).step.bn; omega
          have HAP := HAj
          have HTP := HTj
          have hgP := hgj
          have HNG := Lib.hid hneg
          clear h42 hneg k0 k1
          go_wp2_with fail
          refine (next_any a (L.steps (j + 1)) _ (by exact HAP.out) (by rw [(HI.out.steps (j + 1)).inp]; omega) ((HI.out.steps (j + 1)).lnb (by omega)).1 ((HI.out.steps (j + 1)).lnb (by omega)).2 (by exact HTP.out)).mono ?_
          rintro e w8 ⟨rfl, ha8, hg8⟩
          have HA8 := Lib.hid (show LexAt w8 a (L.steps (j + 1 + 1)) from ha8)
          have HT8 := Lib.hid (tabs_kept HTP.out hg8 (by omega) (by omega) ha0 ha1)
          have hg8' : W5.grownBy w8 (some a) := hgP.trans hg8
          clear ha8 hg8
          go_wp2
          go_roundw
          case rel => exact ⟨j + 1, rfl, HA8, HNX, hnx2, hg8', HT8⟩
          case measure =>
            rw [curB_at HA8.out, HCU.out]
            simp only [notEof_int]
            rw [if_neg HNG.out]
            exact msr HI.out j (by rw [HR.out]; exact HNG.out)
  case rest =>
    obtain ⟨j, hcl, hA, hg, hT⟩ := hcut.out
    have HA := Lib.hid hA
    have HTc := Lib.hid hT
    have HCL := Lib.hid hcl
    have hq := closed (HI.out.steps j) hcl.star hcl.slash
    have hq1 := hq.1
    have hqb : (L.steps (j + 2)).bn = (L.steps j).bn + 2 := hq.2.2.2.2
    have HQ := Lib.hid hq
    have hzc := hg.size
    clear hA hT hcl hcut hq
    go_wp2_with fail
    refine (next_any a (L.steps (j + 1)) _ (by exact HA.out) (by rw [(HI.out.steps (j + 1)).inp]; omega) ((HI.out.steps (j + 1)).lnb (by omega)).1 ((HI.out.steps (j + 1)).lnb (by omega)).2 (by exact HTc.out)).mono ?_
    rintro e w8 ⟨rfl, ha8, hg8⟩
    have HA8 := Lib.hid (show LexAt w8 a (L.steps (j + 2)) from ha8)
    have HT8 := Lib.hid (tabs_kept HTc.out hg8 (by omega) (by omega) ha0 ha1)
    have hg8' : w.grownBy w8 (some a) := hg.trans hg8
    have hz8 := hg8.size
    have HK := Lib.hid (steps_keeps L (j + 2))
    have HIN := Lib.hid (HI.out.steps (j + 2)).inp
    have d2 : w8.cell? ⟨a, 2, none⟩ = some (.string s) := (HA8.out.cell 2).trans (by rw [← HIN.out]; rfl)
    have d6 : w8.cell? ⟨a, 6, none⟩ = some (.int .i64 0) := (HA8.out.cell 6).trans (by rw [← HTS.out, ← HK.out.2.2.2.2.2.2.1]; rfl)
    have d10 : w8.cell? ⟨a, 10, none⟩ = some (.int .i64 (((L.steps j).bn + 2 : Nat) : Int)) := (HA8.out.cell 10).trans (by rw [← hqb]; rfl)
    generalize hQ : (L.steps j).bn + 2 = Q at d10
    have q0 : (0 : Int) ≤ (Q : Int) := Int.natCast_nonneg _
    have q1 : (Q : Int) ≤ (s.size : Int) := by omega
    have HQQ := Lib.hid hQ
    clear ha8 hg8 hQ
    go_wp2_with fail
    go_quiet (fail)
    obtain ⟨W9, hW9⟩ : ∃ W9, W9 = w8.drewN nq := ⟨_, rfl⟩
    rw [← hW9]
    have hB9 : Below w8.heap.size w8 W9 := by rw [hW9]; exact drewN_below (Below.refl _ _) nq
    have hz9 := hB9.size
    have HA9 := Lib.hid (show LexAt W9 a (L.steps (j + 2)) from (hB9.block a HA8.out.lt).trans HA8.out)
    have HT9 := Lib.hid (tabs_below HT8.out hB9 (by omega) (by omega))
    have hg9 : w.grownBy W9 (some a) := Lib.grownBy_below hg8' hB9
    clear hW9 hB9 d2 d6 d10
    go_wp2_with fail
    refine (lexWhitespace s a (L.steps (j + 2)) _ (by exact HA9.out) (HI.out.steps (j + 2)) (by omega) (by exact HT9.out) ha0 ha1).mono ?_
    rintro e wa ⟨k, rfl, hws, hbk, hAa, hga⟩
    have hwl := hws.fit
    have hnl := nlTo_le s (L.steps (j + 2)).bn k
    have HWS := Lib.hid hws
    have HBK := Lib.hid hbk
    have HAa := Lib.hid hAa
    have hga' : w.grownBy wa (some a) := hg9.trans hga
    have HFA : Hid (((L.steps (j + 2)).steps k).fod = .slice none 0 0) := Lib.hid ((steps_keeps _ k).2.2.2.2.2.1.trans (HK.out.2.2.2.2.2.1.trans HFD.out))
    clear hws hbk hAa hga
    generalize hcm : s.extract 0 Q = cm
    have hcz : cm.size = Q := by rw [← hcm, ByteArray.size_extract]; omega
    have hQ2 : 2 ≤ Q := by have := HQQ.out; omega
    have hcb : byteAt cm 0 = 47 := by
      rw [← hcm, byte_ext s Q 0 (by omega) (by omega)]
      have := (rune_byte HI.out (c := 47) (by omega)).1 HC.out
      rw [hbn] at this
      exact this.2
    have HCM := Lib.hid hcm
    have HCB := Lib.hid hcb
    generalize hnn : nlTo s (L.steps (j + 2)).bn k = nn at hnl
    generalize hii : indTo s (L.steps (j + 2)).bn k = ii
    have hks : k ≤ s.size := by omega
    have hnn2 : nn ≤ 1048576 := by omega
    have hii2 : ii ≤ 9000000 := by have := indTo_le s (L.steps (j + 2)).bn k; omega
    clear hcm hcb hnn hii
    have hza := hga'.size
    cases hct : decide (0 ≤ Lib.indexByte cm.data.toList (10 : Int).toNat.toUInt8)
    · have HCT := Lib.hid hct
      clear hct
      go_wp2_with fail
      refine (Tryf.strings_ContainsRune_ascii cm 10 _ (by omega) (by omega)).mono ?_
      rw [HCT.out]
      rintro e wb ⟨rfl, rfl⟩
      have HXb : Hid (∀ o, LexAt (wb.alloc o) a ((L.steps (j + 2)).steps k)) := Lib.hid fun o => (((Below.refl wb.heap.size wb).alloc (Nat.le_refl _) o).block a HAa.out.lt).trans HAa.out
      go_wp2_with fail
      refine (addFodder a ((L.steps (j + 2)).steps k) 1 0 0 _ 1 _ (.inr (.inl ⟨rfl, rfl, rfl, rfl⟩)) (by omega) w.heap.size 0 [] _ (by exact HXb.out _) (by rw [HFA.out]; exact World.ownsRow_nil _ _ _ _) (by exact alloc_le hza) (by omega)).mono ?_
      rintro e wd ⟨rfl, v, hAd, hownd, hvd, hkd⟩
      have HAd := Lib.hid hAd
      have HOd := Lib.hid hownd
      have hgd : w.grownBy wd (some a) := grown_fod hga' HFA.out hkd
      have hzd := hgd.size
      have hvB : ∀ i, v.ownBlock = some i → w.heap.size ≤ i := fun i hi => (World.ownsRow.lt hownd i hi).1
      clear hAd hownd hkd
      by_cases hn0 : nn = 0
      · have m0 : ¬ (0 : Int) < (nn : Int) := by omega
        go_wp2
        go_ret
        exact ⟨.inl ⟨rfl, j, k, v, HCL.out, HWS.out, HBK.out, HAd.out⟩, hgd⟩
      · have m0 : (0 : Int) < (nn : Int) := by omega
        have HXd : Hid (∀ o, LexAt (wd.alloc o) a { (L.steps (j + 2)).steps k with fod := v }) := Lib.hid fun o => (((Below.refl wd.heap.size wd).alloc (Nat.le_refl _) o).block a HAd.out.lt).trans HAd.out
        go_wp2_with fail
        refine (addFodder a { (L.steps (j + 2)).steps k with fod := v } 0 _ _ _ 0 _ (.inl ⟨rfl, by omega⟩) (by omega) w.heap.size 1 _ _ (by exact HXd.out _) (by exact HOd.out.alloc _) (by exact alloc_le hzd) (by omega)).mono ?_
        rintro e wf ⟨rfl, v2, hAf, hownf, hvf, hkf⟩
        have HAf := Lib.hid hAf
        have hgf : w.grownBy wf (some a) := grown_fod2 hgd hvB hkf
        clear hAf hownf hkf
        go_wp2
        go_ret
        exact ⟨.inl ⟨rfl, j, k, v2, HCL.out, HWS.out, HBK.out, HAf.out⟩, hgf⟩
    · have HCT := Lib.hid hct
      clear hct
      go_wp2_with fail
      refine (Tryf.strings_ContainsRune_ascii cm 10 _ (by omega) (by omega)).mono ?_
      rw [HCT.out]
      rintro e wb ⟨rfl, rfl⟩
      go_wp2_with fail
      refine (lineSplit cm 0 (by omega) _).mono ?_
      rintro e wd ⟨v, os, rfl, hpw, hown, hbd⟩
      obtain ⟨x, rest, hsl⟩ := srcLines_head (by omega) HCB.out
      obtain ⟨o, os', rfl, hso⟩ := hpw.head hsl
      obtain ⟨y, hy⟩ := strip_head hso
      obtain ⟨g, cap, rfl⟩ : ∃ g cap, v = .slice (some ⟨g, 0, none⟩) (o :: os').length cap := by
        rcases hown.2 with ⟨_, h0⟩ | ⟨g, cap, cur, h0, _⟩
        · simp at h0
        · exact ⟨g, cap, h0⟩
      have hoz : 0 < o.size := by
        have e : o.size = o.data.toList.length := rfl
        rw [e, hy]
        simp
      have ho0 : o[0]'hoz = 47 := by
        have e : o[0]'hoz = o.data.toList[0]'hoz := rfl
        rw [e]
        simp only [hy]
        rfl
      have hgd : w.grownBy wd (some a) := Lib.grownBy_below hga' (by exact hbd)
      have HAd := Lib.hid (show LexAt wd a ((L.steps (j + 2)).steps k) from (hbd.block a HAa.out.lt).trans HAa.out)
      have HCELL : Hid (∀ (i : Nat) (hi : i < (o :: os').length), wd.cell? ⟨g, i, none⟩ = some (.string ((o :: os')[i]'hi))) := Lib.hid fun i hi => by
        rw [hown.cellAt i (by simpa using hi)]
        rw [List.getElem?_map, List.getElem?_eq_getElem hi]
        rfl
      have HFIRST : Hid (∀ hi, (o :: os')[0]'hi = o) := Lib.hid fun _ => rfl
      have hlen : 1 ≤ (o :: os').length := by simp
      have hmax : (o :: os').length ≤ 100000000 := by
        have h1 := hpw.len
        have h2 := srcLines_ct cm
        omega
      have hl0 : wd.cell? ⟨g, 0, none⟩ = some (.string o) := HCELL.out 0 (by simp)
      have hB0 : (((o[0]'hoz).toNat : Int) != 47) = false := by rw [ho0]; rfl
      generalize (o :: os') = ls at HCELL HFIRST hlen hmax
      have q1 : (0 : Int) < (ls.length : Int) := by omega
      have HO := Lib.hid (And.intro hoz ho0)
      clear hown hpw hso hsl hy hbd ho0
      go_wp2_with fail
      go_loopw [16, 153] (fun b i wr => ∃ (n : Nat) (bb : Bool), i = .int .i64 (n : Int) ∧ n ≤ ls.length ∧ b = .bool bb ∧ Hid (0 < n → bb = false) ∧ wr = wd) (fun _ i _ => ls.length - (intOf i).toNat)
      case atStart => exact ⟨0, true, rfl, by omega, rfl, Lib.hid (fun e => absurd e (by omega)), rfl⟩
      case round =>
        obtain ⟨n, bb, rfl, hn, rfl, HBB, hwr⟩ := hrel
        obtain rfl : wd = wr := hwr.symm
        clear hwr hl0 hB0 q1
        by_cases hlt : n < ls.length
        · have qn : (n : Int) < (ls.length : Int) := by omega
          have cn := HCELL.out n hlt
          have HT0 : Hid (n = 0 → ls[n]'hlt = o) := Lib.hid (fun e => by subst e; exact HFIRST.out hlt)
          generalize ls[n]'hlt = t at cn HT0
          by_cases tz : t.size = 0
          · have z0 : ((t.size : Int) == 0) = true := beq_iff_eq.2 (by omega)
            clear tz
            go_wp2
            go_roundw
            case rel => exact ⟨n + 1, false, by go_num, by omega, rfl, Lib.hid (fun _ => rfl), by first | trivial | rfl⟩
            case measure => simp [intOf]; omega
          · have z0 : ((t.size : Int) == 0) = false := beq_eq_false_iff_ne.2 (by omega)
            have htz : 0 < t.size := by omega
            clear tz
            by_cases e42 : t[0]'htz = 42
            · have b42 : (((t[0]'htz).toNat : Int) != 42) = false := by rw [e42]; rfl
              have HB2 : Hid (bb = false) := Lib.hid (by
                rcases Nat.eq_zero_or_pos n with e | e
                · have ht := HT0.out e
                  subst ht
                  have := HO.out.2
                  rw [e42] at this
                  cases this
                · exact HBB.out e)
              clear e42
              go_wp2
              go_roundw
              case rel => exact ⟨n + 1, bb, by go_num, by omega, rfl, Lib.hid (fun _ => HB2.out), by first | trivial | rfl⟩
              case measure => simp [intOf]; omega
            · have b42 : (((t[0]'htz).toNat : Int) != 42) = true := bne_iff_ne.2 (fun e => e42 (UInt8.toNat_inj.1 (show (t[0]'htz).toNat = 42 by omega)))
              clear e42
              go_wp2
              go_roundw
              case rel => exact ⟨n + 1, false, by go_num, by omega, rfl, Lib.hid (fun _ => rfl), by first | trivial | rfl⟩
              case measure => simp [intOf]; omega
        · have qn : ¬ (n : Int) < (ls.length : Int) := by omega
          obtain rfl : bb = false := HBB.out (by omega)
          by_cases hn0 : nn = 0
          · have m0 : ((nn : Int) == 0) = true := beq_iff_eq.2 (by omega)
            clear hn0
            go_wp2_with fail
            refine (fodSafe a ((L.steps (j + 2)).steps k) _ _ _ _ _ hlen (by omega) _ (by exact HAd.out) HFA.out).mono ?_
            rintro e wf ⟨rfl, ⟨v2, hAf⟩, hgf⟩
            have HAf := Lib.hid hAf
            have hgf' := hgd.trans hgf
            clear hAf hgf
            go_wp2
            go_ret
            exact ⟨.inl ⟨rfl, j, k, v2, HCL.out, HWS.out, HBK.out, HAf.out⟩, hgf'⟩
          · have m0 : ((nn : Int) == 0) = false := beq_eq_false_iff_ne.2 (by omega)
            clear hn0
            go_wp2_with fail
            refine (fodSafe a ((L.steps (j + 2)).steps k) _ _ _ _ _ hlen (by omega) _ (by exact HAd.out) HFA.out).mono ?_
            rintro e wf ⟨rfl, ⟨v2, hAf⟩, hgf⟩
            have HAf := Lib.hid hAf
            have hgf' := hgd.trans hgf
            clear hAf hgf
            go_wp2
            go_ret
            exact ⟨.inl ⟨rfl, j, k, v2, HCL.out, HWS.out, HBK.out, HAf.out⟩, hgf'⟩

end Go.Proofs.YtgdlfcgboghadaaFmt
