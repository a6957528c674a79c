/-
  StringUnescape: it answers well exactly where every escape is well formed.
-/
import Derived.Test.YtgdlfcgboghadaaFmtEsH
import Derived.Test.YtgdlfcgboghadaaFmtEsR
import Derived.Test.YtgdlfcgboghadaaFmtFmtE
import Derived.Test.YtgdlfcgboghadaaFmtShims
import Derived.Lib.BufferRune
import Derived.Deep.RegionHeld3
import Derived.Deep.CutRange
import Derived.Deep.QuietTactic
import Derived.BigQuiet
namespace Go.Proofs.YtgdlfcgboghadaaFmt
open Go Go.RowKit Go.Shelf Go.Extern.Stop Go.Stop

def fmS1 : ByteArray := ⟨#[85, 110, 105, 99, 111, 100, 101, 32, 101, 115, 99, 97, 112, 101, 32, 115, 101, 113, 117, 101, 110, 99, 101, 32, 119, 97, 115, 32, 109, 97, 108, 102, 111, 114, 109, 101, 100, 58, 32, 37, 115]⟩
theorem fmS11 : Extern.FmtStop.printed? fmS1 1 = some [(0, 115, false)] := by kernel_rfl
theorem fmS12 : ∀ w, (Extern.FmtDoors.printed fmS1 1).run Tryf.prog w = .ok [(0, 115, false)] w := fun _ => by kernel_rfl
def fmS2 : ByteArray := ⟨#[85, 110, 105, 99, 111, 100, 101, 32, 108, 111, 119, 32, 115, 117, 114, 114, 111, 103, 97, 116, 101, 32, 101, 115, 99, 97, 112, 101, 32, 115, 101, 113, 117, 101, 110, 99, 101, 32, 119, 97, 115, 32, 109, 97, 108, 102, 111, 114, 109, 101, 100, 58, 32, 37, 115]⟩
theorem fmS21 : Extern.FmtStop.printed? fmS2 1 = some [(0, 115, false)] := by kernel_rfl
theorem fmS22 : ∀ w, (Extern.FmtDoors.printed fmS2 1).run Tryf.prog w = .ok [(0, 115, false)] w := fun _ => by kernel_rfl
def fmC : ByteArray := ⟨#[85, 110, 107, 110, 111, 119, 110, 32, 101, 115, 99, 97, 112, 101, 32, 115, 101, 113, 117, 101, 110, 99, 101, 32, 105, 110, 32, 115, 116, 114, 105, 110, 103, 32, 108, 105, 116, 101, 114, 97, 108, 58, 32, 92, 37, 99]⟩
theorem fmC1 : Extern.FmtStop.printed? fmC 1 = some [(0, 99, false)] := by kernel_rfl
theorem fmC2 : ∀ w, (Extern.FmtDoors.printed fmC 1).run Tryf.prog w = .ok [(0, 99, false)] w := fun _ => by kernel_rfl

/-- The error's value: its text, and no place. -/
def StatV (t : ByteArray) : Value := .agg #[.string t, .pointer none, .string ⟨#[]⟩, .int .i64 0, .int .i64 0, .int .i64 0, .int .i64 0]
set_option maxRecDepth 100000 in
theorem mkStat (t : ByteArray) (w : World) :
    Calls Tryf.prog 28 #[.string t, .agg #[.pointer none, .string ⟨#[]⟩, .int .i64 0, .int .i64 0, .int .i64 0, .int .i64 0]] w fun e w' => e = .returned (.iface 112 (StatV t)) ∧ Below w.heap.size w w' := by
  go_enter Tryf.func28, Tryf.ntmps28
  go_wp2
  go_ret
  exact ⟨rfl, by refine Below.alloc (Below.refl _ w) (Nat.le_refl _) _⟩
theorem enc_le (r : Int) : (Lib.encodeRune r).length ≤ 4 := by
  unfold Lib.encodeRune Lib.encodeRuneZ
  rw [List.length_map]
  split
  · simp
  split
  · simp
  split
  · simp
  split <;> simp
theorem bel_tr {w W V : World} (h : Below w.heap.size w W) (hb : Below w.heap.size W V) : Below w.heap.size w V := h.trans hb
theorem belo0 {W V : World} (h : Below W.drew.heap.size W.drew V) : Below W.heap.size W V := ⟨h.os, h.tape, h.output, h.size, h.block⟩
theorem belo1 {W V X : World} {o : Obj} (h : Below X.heap.size X V) (hX : X.heap = (W.alloc o).heap := by rfl) (h1 : X.os = W.os := by rfl) (h2 : X.tape = W.tape := by rfl) (h3 : X.output = W.output := by rfl) : Below W.heap.size W V := by
  have hs : W.heap.size ≤ X.heap.size := by rw [hX]; simp
  refine ⟨h.os.trans h1, h.tape.trans h2, h.output.trans h3, Nat.le_trans hs h.size, fun k hk => (h.block k (Nat.lt_of_lt_of_le hk hs)).trans ?_⟩
  rw [hX]
  exact Below.heap_alloc W o k hk
theorem beq34 {r c : Nat} (h : ¬ r = c) : ((r : Int) == (c : Int)) = false := beq_eq_false_iff_ne.2 (by omega)
theorem rune_no {s : ByteArray} {i c : Nat} (h : i < s.size) (hb : ¬ byteAt s i = c) (hc : c < 128) : ¬ (Utf8.decode s i).1 = c := by
  by_cases hl : byteAt s i < 128
  · rw [decode_low s i h hl]
    exact hb
  · have := (decode_hi s i h (by omega)).1
    omega

def UnPost (s : ByteArray) (w : World) (e : Ending) (w' : World) : Prop :=
  ((okAt s 0 = true ∧ ∃ t, e = .returned (.tuple #[.string t, .nilIface])) ∨ (okAt s 0 = false ∧ ∃ t, e = .returned (.tuple #[.string ⟨#[]⟩, .iface 112 (StatV t)]))) ∧ Below w.heap.size w w'

set_option maxHeartbeats 6400000 in
set_option maxRecDepth 100000 in
theorem unescape (F : Interp) (s : ByteArray) (lb lo : Nat) (ev : Value) (w : World) (hF : F.answers w.tape) (hs : s.size ≤ 4000000) (hlb : lb < w.heap.size)
    (hl : w.cell? ⟨lb, lo, none⟩ = some (.pointer none) ∧ w.cell? ⟨lb, lo + 1, none⟩ = some (.string ⟨#[]⟩) ∧ w.cell? ⟨lb, lo + 2, none⟩ = some (.int .i64 0) ∧ w.cell? ⟨lb, lo + 3, none⟩ = some (.int .i64 0) ∧ w.cell? ⟨lb, lo + 4, none⟩ = some (.int .i64 0) ∧ w.cell? ⟨lb, lo + 5, none⟩ = some (.int .i64 0))
    (hE : w.cell? ⟨5, 0, none⟩ = some ev) (hT : Lib.Utf8Tabs 3 4 w) :
    Calls Tryf.prog 26 #[.pointer (some ⟨lb, lo, none⟩), .string s] w (UnPost s w) := by
  obtain ⟨g0, g1⟩ := tabs_lt hT
  have ge : 5 < w.heap.size := World.block_lt_of_cell? w ⟨5, 0, none⟩ hE
  have HT : Hid (∀ V, Below w.heap.size w V → Lib.Utf8Tabs 3 4 V) := Lib.hid fun V hV => tabs_below hT hV g0 g1
  have HEV : Hid (∀ V, Below w.heap.size w V → V.cell? ⟨5, 0, none⟩ = some ev) := Lib.hid fun V hV => (hV.cell (p := ⟨5, 0, none⟩) ge).trans hE
  have HLOC : Hid (∀ V, Below w.heap.size w V → V.cell? ⟨lb, lo, none⟩ = some (.pointer none) ∧ V.cell? ⟨lb, lo + 1, none⟩ = some (.string ⟨#[]⟩) ∧ V.cell? ⟨lb, lo + 2, none⟩ = some (.int .i64 0) ∧ V.cell? ⟨lb, lo + 3, none⟩ = some (.int .i64 0) ∧ V.cell? ⟨lb, lo + 4, none⟩ = some (.int .i64 0) ∧ V.cell? ⟨lb, lo + 5, none⟩ = some (.int .i64 0)) := Lib.hid fun V hV => by
    obtain ⟨a0, a1, a2, a3, a4, a5⟩ := hl
    exact ⟨(hV.cell (p := ⟨lb, lo, none⟩) hlb).trans a0, (hV.cell (p := ⟨lb, lo + 1, none⟩) hlb).trans a1, (hV.cell (p := ⟨lb, lo + 2, none⟩) hlb).trans a2, (hV.cell (p := ⟨lb, lo + 3, none⟩) hlb).trans a3, (hV.cell (p := ⟨lb, lo + 4, none⟩) hlb).trans a4, (hV.cell (p := ⟨lb, lo + 5, none⟩) hlb).trans a5⟩
  have HF := Lib.hid hF
  have HB0 := Lib.hid (Lib.fresh_isBuffer 97 5 w)
  have HW0 : Hid (Below w.heap.size w (w.alloc (.cells #[.slice none 0 0, .int .i64 0, .int .i8 0] 97))) := Lib.hid ((Below.refl _ w).alloc (Nat.le_refl _) _)
  clear hF hl hE hT
  go_enter Tryf.func26, Tryf.ntmps26
  go_wp2_with fail
  go_loopw [7] (fun v wr => ∃ (i : Nat) (bs : List UInt8), v = .int .i64 (i : Int) ∧ i ≤ s.size ∧ Hid (okAt s 0 = okAt s i) ∧ Hid (Lib.IsBuffer 97 5 w.heap.size w.heap.size (Lib.byteCells bs) wr) ∧ bs.length ≤ 4 * i ∧ Hid (Below w.heap.size w wr)) (fun v _ => s.size - (intOf v).toNat)
  case atStart => exact ⟨0, [], rfl, by omega, Lib.hid rfl, HB0, by simp, HW0⟩
  case round =>
    obtain ⟨i, bs, rfl, hi, HOK, HBUF, hbl, HBW⟩ := hrel
    have hzw := HBW.out.size
    by_cases hlt : i < s.size
    · have qi : (i : Int) < (s.size : Int) := by omega
      have hle : i ≤ s.size := hi
      go_wp2_with fail
      refine (Tryf.utf8_DecodeRuneInString _ _ (by exact HT.out _ HBW.out)).mono ?_
      rintro e w1 ⟨rfl, hb1⟩
      rw [decodeGo_drop _ _ hlt]
      have HBUF := Lib.hid (isBuffer_grown HBUF.out (grown_of_below (row := none) hb1) (fun g e => by cases e))
      have HBW := Lib.hid (HBW.out.trans (hb1.mono HBW.out.size))
      clear hb1
      by_cases h92 : byteAt s i = 92
      · have hd : Utf8.decode s i = (92, 1) := by rw [decode_low s i hlt (by omega), h92]
        rw [hd]
        clear hd
        by_cases h1 : i + 1 < s.size
        · have q1 : ¬ (s.size : Int) ≤ (i : Int) + 1 := by omega
          have q1' : (i : Int) + 1 ≤ (s.size : Int) := by omega
          have q1'' : (0 : Int) ≤ (i : Int) + 1 := by omega
          have hx1 : ((i : Int) + 1).toNat = i + 1 := by omega
          go_wp2_with fail
          refine (Tryf.utf8_DecodeRuneInString _ _ (by exact HT.out _ HBW.out)).mono ?_
          rintro e w2 ⟨rfl, hb2⟩
          rw [decodeGo_drop _ _ h1]
          have HBUF := Lib.hid (isBuffer_grown HBUF.out (grown_of_below (row := none) hb2) (fun g e => by cases e))
          have HBW := Lib.hid (HBW.out.trans (hb2.mono HBW.out.size))
          clear hb2
          by_cases c34 : byteAt s (i + 1) = 34
          · have hd2 : Utf8.decode s (i + 1) = (34, 1) := by rw [decode_low s (i + 1) h1 (by omega), c34]
            have HOK2 : Hid (okAt s 0 = okAt s (i + 2)) := Lib.hid (HOK.out.trans (ok_next hlt (esc_simple h92 h1 (by rw [c34]; decide)) (by omega)))
            rw [hd2]
            clear hd2 c34
            go_wp2_with fail
            refine (Tryf.Buffer_WriteRune_k w.heap.size w.heap.size _ (34) (by omega) (by omega) _ (by exact HBUF.out) (by have := HBW.out.size; omega) (Lib.byteCells_one _) (by rw [Lib.byteCells_length]; omega)).mono ?_
            rintro e wz ⟨rfl, hBz, hbz, _⟩
            rw [← Lib.byteCells_encodeRune, ← Lib.byteCells_append] at hBz
            have hbl2 : (bs ++ Lib.encodeRune (34)).length ≤ 4 * (i + 2) := by
              rw [List.length_append]
              have := enc_le (34)
              omega
            have HBW2 := Lib.hid (bel_tr HBW.out hbz)
            have HBUF2 := Lib.hid hBz
            clear hBz hbz
            generalize (bs ++ Lib.encodeRune (34)) = bs2 at hbl2 HBUF2
            go_wp2
            go_roundw
            case rel => exact ⟨i + 2, bs2, by go_num, by omega, HOK2, HBUF2, hbl2, HBW2⟩
            case measure => simp [intOf]; omega
          by_cases c39 : byteAt s (i + 1) = 39
          · have hd2 : Utf8.decode s (i + 1) = (39, 1) := by rw [decode_low s (i + 1) h1 (by omega), c39]
            have HOK2 : Hid (okAt s 0 = okAt s (i + 2)) := Lib.hid (HOK.out.trans (ok_next hlt (esc_simple h92 h1 (by rw [c39]; decide)) (by omega)))
            rw [hd2]
            clear hd2 c39
            go_wp2_with fail
            refine (Tryf.Buffer_WriteRune_k w.heap.size w.heap.size _ (39) (by omega) (by omega) _ (by exact HBUF.out) (by have := HBW.out.size; omega) (Lib.byteCells_one _) (by rw [Lib.byteCells_length]; omega)).mono ?_
            rintro e wz ⟨rfl, hBz, hbz, _⟩
            rw [← Lib.byteCells_encodeRune, ← Lib.byteCells_append] at hBz
            have hbl2 : (bs ++ Lib.encodeRune (39)).length ≤ 4 * (i + 2) := by
              rw [List.length_append]
              have := enc_le (39)
              omega
            have HBW2 := Lib.hid (bel_tr HBW.out hbz)
            have HBUF2 := Lib.hid hBz
            clear hBz hbz
            generalize (bs ++ Lib.encodeRune (39)) = bs2 at hbl2 HBUF2
            go_wp2
            go_roundw
            case rel => exact ⟨i + 2, bs2, by go_num, by omega, HOK2, HBUF2, hbl2, HBW2⟩
            case measure => simp [intOf]; omega
          by_cases c92 : byteAt s (i + 1) = 92
          · have hd2 : Utf8.decode s (i + 1) = (92, 1) := by rw [decode_low s (i + 1) h1 (by omega), c92]
            have HOK2 : Hid (okAt s 0 = okAt s (i + 2)) := Lib.hid (HOK.out.trans (ok_next hlt (esc_simple h92 h1 (by rw [c92]; decide)) (by omega)))
            rw [hd2]
            clear hd2 c92
            go_wp2_with fail
            refine (Tryf.Buffer_WriteRune_k w.heap.size w.heap.size _ (92) (by omega) (by omega) _ (by exact HBUF.out) (by have := HBW.out.size; omega) (Lib.byteCells_one _) (by rw [Lib.byteCells_length]; omega)).mono ?_
            rintro e wz ⟨rfl, hBz, hbz, _⟩
            rw [← Lib.byteCells_encodeRune, ← Lib.byteCells_append] at hBz
            have hbl2 : (bs ++ Lib.encodeRune (92)).length ≤ 4 * (i + 2) := by
              rw [List.length_append]
              have := enc_le (92)
              omega
            have HBW2 := Lib.hid (bel_tr HBW.out hbz)
            have HBUF2 := Lib.hid hBz
            clear hBz hbz
            generalize (bs ++ Lib.encodeRune (92)) = bs2 at hbl2 HBUF2
            go_wp2
            go_roundw
            case rel => exact ⟨i + 2, bs2, by go_num, by omega, HOK2, HBUF2, hbl2, HBW2⟩
            case measure => simp [intOf]; omega
          by_cases c47 : byteAt s (i + 1) = 47
          · have hd2 : Utf8.decode s (i + 1) = (47, 1) := by rw [decode_low s (i + 1) h1 (by omega), c47]
            have HOK2 : Hid (okAt s 0 = okAt s (i + 2)) := Lib.hid (HOK.out.trans (ok_next hlt (esc_simple h92 h1 (by rw [c47]; decide)) (by omega)))
            rw [hd2]
            clear hd2 c47
            go_wp2_with fail
            refine (Tryf.Buffer_WriteRune_k w.heap.size w.heap.size _ (47) (by omega) (by omega) _ (by exact HBUF.out) (by have := HBW.out.size; omega) (Lib.byteCells_one _) (by rw [Lib.byteCells_length]; omega)).mono ?_
            rintro e wz ⟨rfl, hBz, hbz, _⟩
            rw [← Lib.byteCells_encodeRune, ← Lib.byteCells_append] at hBz
            have hbl2 : (bs ++ Lib.encodeRune (47)).length ≤ 4 * (i + 2) := by
              rw [List.length_append]
              have := enc_le (47)
              omega
            have HBW2 := Lib.hid (bel_tr HBW.out hbz)
            have HBUF2 := Lib.hid hBz
            clear hBz hbz
            generalize (bs ++ Lib.encodeRune (47)) = bs2 at hbl2 HBUF2
            go_wp2
            go_roundw
            case rel => exact ⟨i + 2, bs2, by go_num, by omega, HOK2, HBUF2, hbl2, HBW2⟩
            case measure => simp [intOf]; omega
          by_cases c98 : byteAt s (i + 1) = 98
          · have hd2 : Utf8.decode s (i + 1) = (98, 1) := by rw [decode_low s (i + 1) h1 (by omega), c98]
            have HOK2 : Hid (okAt s 0 = okAt s (i + 2)) := Lib.hid (HOK.out.trans (ok_next hlt (esc_simple h92 h1 (by rw [c98]; decide)) (by omega)))
            rw [hd2]
            clear hd2 c98
            go_wp2_with fail
            refine (Tryf.Buffer_WriteRune_k w.heap.size w.heap.size _ (8) (by omega) (by omega) _ (by exact HBUF.out) (by have := HBW.out.size; omega) (Lib.byteCells_one _) (by rw [Lib.byteCells_length]; omega)).mono ?_
            rintro e wz ⟨rfl, hBz, hbz, _⟩
            rw [← Lib.byteCells_encodeRune, ← Lib.byteCells_append] at hBz
            have hbl2 : (bs ++ Lib.encodeRune (8)).length ≤ 4 * (i + 2) := by
              rw [List.length_append]
              have := enc_le (8)
              omega
            have HBW2 := Lib.hid (bel_tr HBW.out hbz)
            have HBUF2 := Lib.hid hBz
            clear hBz hbz
            generalize (bs ++ Lib.encodeRune (8)) = bs2 at hbl2 HBUF2
            go_wp2
            go_roundw
            case rel => exact ⟨i + 2, bs2, by go_num, by omega, HOK2, HBUF2, hbl2, HBW2⟩
            case measure => simp [intOf]; omega
          by_cases c102 : byteAt s (i + 1) = 102
          · have hd2 : Utf8.decode s (i + 1) = (102, 1) := by rw [decode_low s (i + 1) h1 (by omega), c102]
            have HOK2 : Hid (okAt s 0 = okAt s (i + 2)) := Lib.hid (HOK.out.trans (ok_next hlt (esc_simple h92 h1 (by rw [c102]; decide)) (by omega)))
            rw [hd2]
            clear hd2 c102
            go_wp2_with fail
            refine (Tryf.Buffer_WriteRune_k w.heap.size w.heap.size _ (12) (by omega) (by omega) _ (by exact HBUF.out) (by have := HBW.out.size; omega) (Lib.byteCells_one _) (by rw [Lib.byteCells_length]; omega)).mono ?_
            rintro e wz ⟨rfl, hBz, hbz, _⟩
            rw [← Lib.byteCells_encodeRune, ← Lib.byteCells_append] at hBz
            have hbl2 : (bs ++ Lib.encodeRune (12)).length ≤ 4 * (i + 2) := by
              rw [List.length_append]
              have := enc_le (12)
              omega
            have HBW2 := Lib.hid (bel_tr HBW.out hbz)
            have HBUF2 := Lib.hid hBz
            clear hBz hbz
            generalize (bs ++ Lib.encodeRune (12)) = bs2 at hbl2 HBUF2
            go_wp2
            go_roundw
            case rel => exact ⟨i + 2, bs2, by go_num, by omega, HOK2, HBUF2, hbl2, HBW2⟩
            case measure => simp [intOf]; omega
          by_cases c110 : byteAt s (i + 1) = 110
          · have hd2 : Utf8.decode s (i + 1) = (110, 1) := by rw [decode_low s (i + 1) h1 (by omega), c110]
            have HOK2 : Hid (okAt s 0 = okAt s (i + 2)) := Lib.hid (HOK.out.trans (ok_next hlt (esc_simple h92 h1 (by rw [c110]; decide)) (by omega)))
            rw [hd2]
            clear hd2 c110
            go_wp2_with fail
            refine (Tryf.Buffer_WriteRune_k w.heap.size w.heap.size _ (10) (by omega) (by omega) _ (by exact HBUF.out) (by have := HBW.out.size; omega) (Lib.byteCells_one _) (by rw [Lib.byteCells_length]; omega)).mono ?_
            rintro e wz ⟨rfl, hBz, hbz, _⟩
            rw [← Lib.byteCells_encodeRune, ← Lib.byteCells_append] at hBz
            have hbl2 : (bs ++ Lib.encodeRune (10)).length ≤ 4 * (i + 2) := by
              rw [List.length_append]
              have := enc_le (10)
              omega
            have HBW2 := Lib.hid (bel_tr HBW.out hbz)
            have HBUF2 := Lib.hid hBz
            clear hBz hbz
            generalize (bs ++ Lib.encodeRune (10)) = bs2 at hbl2 HBUF2
            go_wp2
            go_roundw
            case rel => exact ⟨i + 2, bs2, by go_num, by omega, HOK2, HBUF2, hbl2, HBW2⟩
            case measure => simp [intOf]; omega
          by_cases c114 : byteAt s (i + 1) = 114
          · have hd2 : Utf8.decode s (i + 1) = (114, 1) := by rw [decode_low s (i + 1) h1 (by omega), c114]
            have HOK2 : Hid (okAt s 0 = okAt s (i + 2)) := Lib.hid (HOK.out.trans (ok_next hlt (esc_simple h92 h1 (by rw [c114]; decide)) (by omega)))
            rw [hd2]
            clear hd2 c114
            go_wp2_with fail
            refine (Tryf.Buffer_WriteRune_k w.heap.size w.heap.size _ (13) (by omega) (by omega) _ (by exact HBUF.out) (by have := HBW.out.size; omega) (Lib.byteCells_one _) (by rw [Lib.byteCells_length]; omega)).mono ?_
            rintro e wz ⟨rfl, hBz, hbz, _⟩
            rw [← Lib.byteCells_encodeRune, ← Lib.byteCells_append] at hBz
            have hbl2 : (bs ++ Lib.encodeRune (13)).length ≤ 4 * (i + 2) := by
              rw [List.length_append]
              have := enc_le (13)
              omega
            have HBW2 := Lib.hid (bel_tr HBW.out hbz)
            have HBUF2 := Lib.hid hBz
            clear hBz hbz
            generalize (bs ++ Lib.encodeRune (13)) = bs2 at hbl2 HBUF2
            go_wp2
            go_roundw
            case rel => exact ⟨i + 2, bs2, by go_num, by omega, HOK2, HBUF2, hbl2, HBW2⟩
            case measure => simp [intOf]; omega
          by_cases c116 : byteAt s (i + 1) = 116
          · have hd2 : Utf8.decode s (i + 1) = (116, 1) := by rw [decode_low s (i + 1) h1 (by omega), c116]
            have HOK2 : Hid (okAt s 0 = okAt s (i + 2)) := Lib.hid (HOK.out.trans (ok_next hlt (esc_simple h92 h1 (by rw [c116]; decide)) (by omega)))
            rw [hd2]
            clear hd2 c116
            go_wp2_with fail
            refine (Tryf.Buffer_WriteRune_k w.heap.size w.heap.size _ (9) (by omega) (by omega) _ (by exact HBUF.out) (by have := HBW.out.size; omega) (Lib.byteCells_one _) (by rw [Lib.byteCells_length]; omega)).mono ?_
            rintro e wz ⟨rfl, hBz, hbz, _⟩
            rw [← Lib.byteCells_encodeRune, ← Lib.byteCells_append] at hBz
            have hbl2 : (bs ++ Lib.encodeRune (9)).length ≤ 4 * (i + 2) := by
              rw [List.length_append]
              have := enc_le (9)
              omega
            have HBW2 := Lib.hid (bel_tr HBW.out hbz)
            have HBUF2 := Lib.hid hBz
            clear hBz hbz
            generalize (bs ++ Lib.encodeRune (9)) = bs2 at hbl2 HBUF2
            go_wp2
            go_roundw
            case rel => exact ⟨i + 2, bs2, by go_num, by omega, HOK2, HBUF2, hbl2, HBW2⟩
            case measure => simp [intOf]; omega
          have hns : simpleEsc (byteAt s (i + 1)) = false := by simp [simpleEsc, c34, c39, c92, c47, c98, c102, c110, c114, c116]
          by_cases c117 : byteAt s (i + 1) = 117
          · have hd2 : Utf8.decode s (i + 1) = (117, 1) := by rw [decode_low s (i + 1) h1 (by omega), c117]
            have HU := Lib.hid (esc_u h92 h1 c117)
            rw [hd2]
            clear hd2 c117 hns c34 c39 c92 c47 c98 c102 c110 c114 c116
            as_aux_lemma =>
              by_cases h6 : s.size < i + 6
              · have HE : Hid (okAt s 0 = false) := Lib.hid (HOK.out.trans (ok_zero hlt (by rw [HU.out, if_pos h6])))
                have q6 : (s.size : Int) < (i : Int) + 1 + 1 + 4 := by omega
                have q6' : (s.size : Int) < (i : Int) + 6 := by omega
                obtain ⟨l0, l1, l2, l3, l4, l5⟩ := HLOC.out _ HBW.out
                go_wp2_with fail
                refine (mkStat _ _).mono ?_
                rintro e w9 ⟨rfl, hb9⟩
                have HB9 := Lib.hid (HBW.out.trans (hb9.mono HBW.out.size))
                clear hb9 l0 l1 l2 l3 l4 l5
                go_wp2
                go_ret2
                exact ⟨.inr ⟨HE.out, _, rfl⟩, HB9.out⟩
              · obtain ⟨p, hp⟩ : ∃ p : Nat, p = i + 1 + 1 := ⟨_, rfl⟩
                have hpi : (p : Int) = (i : Int) + 1 + 1 := by omega
                have q6 : ¬ (s.size : Int) < (i : Int) + 1 + 1 + 4 := by omega
                have HU6 := Lib.hid h6
                clear h6
                go_wp2_with fail
                refine (hexAt s (i + 1 + 1) (by omega) ev _ (HEV.out _ HBW.out)).mono ?_
                rintro e w3 ⟨hpost, hb3⟩
                rcases hpost with ⟨x, y, bk, cap, hh, hx, hy, rfl, c0, c1, hbk⟩ | ⟨hh, v, c, rfl⟩
                · have HH := Lib.hid hh
                  clear hh
                  have HBUF := Lib.hid (isBuffer_grown HBUF.out (grown_of_below (row := none) hb3) (fun g e => by cases e))
                  have HBW := Lib.hid (HBW.out.trans (hb3.mono HBW.out.size))
                  clear hb3
                  have x0 : (0 : Int) ≤ (x : Int) := by omega
                  have x1 : (x : Int) < 256 := by omega
                  have y0 : (0 : Int) ≤ (y : Int) := by omega
                  have y1 : (y : Int) < 256 := by omega
                  go_wp2_with fail
                  go_quiet (fail)
                  obtain ⟨w4, hw4⟩ : ∃ W, W = w3.drewN nq := ⟨_, rfl⟩
                  have hb4 : Below w3.heap.size w3 w4 := by rw [hw4]; exact drewN_below (Below.refl _ _) nq
                  rw [← hw4]
                  clear hw4
                  go_wp2_with fail
                  have HBUF := Lib.hid (isBuffer_grown HBUF.out (grown_of_below (row := none) hb4) (fun g e => by cases e))
                  have HBW := Lib.hid (HBW.out.trans (hb4.mono HBW.out.size))
                  clear hb4
                  have hq0 : (0 : Int) ≤ (x : Int) * 256 + (y : Int) := by omega
                  have hq1 : (x : Int) * 256 + (y : Int) < 65536 := by omega
                  obtain ⟨z, hz⟩ : ∃ z : Int, z = (x : Int) * 256 + (y : Int) := ⟨_, rfl⟩
                  rw [← hz] at hq0 hq1 ⊢
                  by_cases hsur : 55296 ≤ z ∧ z < 57344
                  · as_aux_lemma =>
                    refine (isSurr z _).mono ?_
                    rw [decide_eq_true hsur]
                    rintro e w5 ⟨rfl, rfl⟩
                    have HU7 : Hid (escAt s i = if s.size < i + 12 then 0 else if byteAt s (i + 6) ≠ 92 ∨ byteAt s (i + 7) ≠ 117 then 0 else match h4 s (i + 8) with | none => 0 | some _ => 12) := Lib.hid (by
                      rw [HU.out, if_neg HU6.out, show i + 2 = i + 1 + 1 by omega, HH.out]
                      simp only
                      rw [if_pos (by omega)]
                      rfl)
                    clear HU HU6 HH
                    obtain ⟨s1, s2⟩ := hsur
                    by_cases h12 : s.size < i + 12
                    · have HE : Hid (okAt s 0 = false) := Lib.hid (HOK.out.trans (ok_zero hlt (by rw [HU7.out, if_pos h12])))
                      have q12 : (s.size : Int) < (i : Int) + 1 + 1 + 4 + 6 := by omega
                      clear HU7 hz x0 x1 y0 y1 hx hy
                      obtain ⟨l0, l1, l2, l3, l4, l5⟩ := HLOC.out _ HBW.out
                      go_wp2_with fail
                      refine (mkStat _ _).mono ?_
                      rintro e w9 ⟨rfl, hb9⟩
                      have HB9 := Lib.hid (HBW.out.trans (hb9.mono HBW.out.size))
                      clear hb9 l0 l1 l2 l3 l4 l5
                      go_wp2
                      go_ret2
                      exact ⟨.inr ⟨HE.out, _, rfl⟩, HB9.out⟩
                    · have q12 : ¬ (s.size : Int) < (i : Int) + 1 + 1 + 4 + 6 := by omega
                      have hx12 : i + 1 + 1 + 4 + 2 + 4 ≤ s.size := by omega
                      clear hz x0 x1 y0 y1 hx hy
                      by_cases hbb : byteAt s (i + 6) = 92 ∧ byteAt s (i + 7) = 117
                      · have qe : (!(s.extract (i + 1 + 1 + 4) (i + 1 + 1 + 4 + 2)).toList == [92, 117]) = false := by
                          rw [ext2_eq s (i + 1 + 1 + 4) (by omega), Bool.not_eq_false', decide_eq_true_iff]
                          exact hbb
                        have HU8 : Hid (escAt s i = match h4 s (i + 8) with | none => 0 | some _ => 12) := Lib.hid (by
                          rw [HU7.out, if_neg h12, if_neg (by omega)])
                        clear HU7 hbb h12
                        go_wp2_with fail
                        refine (hexAt s (i + 1 + 1 + 4 + 2) hx12 ev _ (HEV.out _ HBW.out)).mono ?_
                        rintro e w6 ⟨hpost, hb6⟩
                        rcases hpost with ⟨x, y, bk, cap, hh, hx, hy, rfl, c0, c1, hbk⟩ | ⟨hh, v, c, rfl⟩
                        · have HOK2 : Hid (okAt s 0 = okAt s (i + 12)) := Lib.hid (HOK.out.trans (ok_next hlt (by rw [HU8.out, show i + 8 = i + 1 + 1 + 4 + 2 by omega, hh]) (by omega)))
                          clear hh HU8
                          have HBUF := Lib.hid (isBuffer_grown HBUF.out (grown_of_below (row := none) hb6) (fun g e => by cases e))
                          have HBW := Lib.hid (HBW.out.trans (hb6.mono HBW.out.size))
                          clear hb6
                          have x0 : (0 : Int) ≤ (x : Int) := by omega
                          have x1 : (x : Int) < 256 := by omega
                          have y0 : (0 : Int) ≤ (y : Int) := by omega
                          have y1 : (y : Int) < 256 := by omega
                          go_wp2_with fail
                          go_quiet (fail)
                          obtain ⟨w7, hw7⟩ : ∃ W, W = w6.drewN nq := ⟨_, rfl⟩
                          have hb7 : Below w6.heap.size w6 w7 := by rw [hw7]; exact drewN_below (Below.refl _ _) nq
                          rw [← hw7]
                          clear hw7
                          go_wp2_with fail
                          have HBUF := Lib.hid (isBuffer_grown HBUF.out (grown_of_below (row := none) hb7) (fun g e => by cases e))
                          have HBW := Lib.hid (HBW.out.trans (hb7.mono HBW.out.size))
                          clear hb7
                          refine (decRune z _ _ s1 s2 (by omega) (by omega)).mono ?_
                          rintro e w8 ⟨⟨z2, rfl, z2l, z2h⟩, rfl⟩
                          clear x0 x1 y0 y1 hx hy qe
                          go_wp2_with fail
                          refine (Tryf.Buffer_WriteRune_k w.heap.size w.heap.size _ (z2) (by omega) (by omega) _ (by exact HBUF.out) (by have := HBW.out.size; omega) (Lib.byteCells_one _) (by rw [Lib.byteCells_length]; omega)).mono ?_
                          rintro e wz ⟨rfl, hBz, hbz, _⟩
                          rw [← Lib.byteCells_encodeRune, ← Lib.byteCells_append] at hBz
                          have hbl2 : (bs ++ Lib.encodeRune (z2)).length ≤ 4 * (i + 12) := by
                            rw [List.length_append]
                            have := enc_le (z2)
                            omega
                          have HBW2 := Lib.hid (bel_tr HBW.out hbz)
                          have HBUF2 := Lib.hid hBz
                          clear hBz hbz
                          generalize (bs ++ Lib.encodeRune (z2)) = bs2 at hbl2 HBUF2
                          go_wp2
                          go_roundw
                          case rel => exact ⟨i + 12, bs2, by go_num, by omega, HOK2, HBUF2, hbl2, HBW2⟩
                          case measure => simp [intOf]; omega
                        · have HE : Hid (okAt s 0 = false) := Lib.hid (HOK.out.trans (ok_zero hlt (by rw [HU8.out, show i + 8 = i + 1 + 1 + 4 + 2 by omega, hh])))
                          clear hh HU8
                          have HBUF := Lib.hid (isBuffer_grown HBUF.out (grown_of_below (row := none) hb6) (fun g e => by cases e))
                          have HBW := Lib.hid (HBW.out.trans (hb6.mono HBW.out.size))
                          clear hb6
                          have qs4 : (4 : Int) ≤ (s.size : Int) := by omega
                          have qs4' : 4 ≤ s.size := by omega
                          have HSL : Hid (∀ V, Below w6.heap.size w6 V → V.cell? ⟨lb, lo, none⟩ = some (.pointer none) ∧ V.cell? ⟨lb, lo + 1, none⟩ = some (.string ⟨#[]⟩) ∧ V.cell? ⟨lb, lo + 2, none⟩ = some (.int .i64 0) ∧ V.cell? ⟨lb, lo + 3, none⟩ = some (.int .i64 0) ∧ V.cell? ⟨lb, lo + 4, none⟩ = some (.int .i64 0) ∧ V.cell? ⟨lb, lo + 5, none⟩ = some (.int .i64 0)) := Lib.hid fun V hV => HLOC.out V (HBW.out.trans (hV.mono HBW.out.size))
                          have HFW : Hid (F.answers w6.tape) := Lib.hid (by rw [HBW.out.tape]; exact HF.out)
                          go_wp2_with fail
                          go_region_held3 (fun V => V.cell? ⟨lb, lo, none⟩ = some (.pointer none) ∧ V.cell? ⟨lb, lo + 1, none⟩ = some (.string ⟨#[]⟩) ∧ V.cell? ⟨lb, lo + 2, none⟩ = some (.int .i64 0) ∧ V.cell? ⟨lb, lo + 3, none⟩ = some (.int .i64 0) ∧ V.cell? ⟨lb, lo + 4, none⟩ = some (.int .i64 0) ∧ V.cell? ⟨lb, lo + 5, none⟩ = some (.int .i64 0))
                            (first | exact HSL.out _ (by exact Below.refl _ w6) | exact HSL.out _ (by exact belo0 (Below.refl _ _)) | exact HSL.out _ (by exact belo1 (Below.refl _ _)) | exact HSL.out _ (by exact belo1 hb9))
                            (first | (refine FmtS.step_sprintfS (by rfl) _ _ (by rfl) fmS2 w6.heap.size _ (by rfl) (by rfl) fmS21 fmS22 (by exact (cell_of_row _ _ 0 _ _ _ (heap_alloc_new w6 _)).trans rfl) F (by exact HFW.out) ?_; intro tx) | (go_at_call 28; refine (mkStat _ _).mono ?_; rintro e w9 ⟨rfl, hb9⟩))
                          all_goals
                            have HB9 : Hid (Below w.heap.size w w9) := Lib.hid (HBW.out.trans ((by exact belo1 hb9 : Below w6.heap.size w6 w9).mono HBW.out.size))
                            clear hb9
                            go_wp2
                            go_ret2
                            exact ⟨.inr ⟨HE.out, _, rfl⟩, HB9.out⟩
                      · have qe : (!(s.extract (i + 1 + 1 + 4) (i + 1 + 1 + 4 + 2)).toList == [92, 117]) = true := by
                          rw [ext2_eq s (i + 1 + 1 + 4) (by omega), Bool.not_eq_true', decide_eq_false_iff_not]
                          exact hbb
                        have HE : Hid (okAt s 0 = false) := Lib.hid (HOK.out.trans (ok_zero hlt (by rw [HU7.out, if_neg h12, if_pos (by omega)])))
                        clear HU7 hbb h12
                        obtain ⟨l0, l1, l2, l3, l4, l5⟩ := HLOC.out _ HBW.out
                        go_wp2_with fail
                        refine (mkStat _ _).mono ?_
                        rintro e w9 ⟨rfl, hb9⟩
                        have HB9 := Lib.hid (HBW.out.trans (hb9.mono HBW.out.size))
                        clear hb9 l0 l1 l2 l3 l4 l5
                        go_wp2
                        go_ret2
                        exact ⟨.inr ⟨HE.out, _, rfl⟩, HB9.out⟩
                  · refine (isSurr z _).mono ?_
                    rw [decide_eq_false hsur]
                    rintro e w5 ⟨rfl, rfl⟩
                    have HOK2 : Hid (okAt s 0 = okAt s (i + 6)) := Lib.hid (HOK.out.trans (ok_next hlt (by rw [HU.out, if_neg HU6.out, show i + 2 = i + 1 + 1 by omega, HH.out]; simp only; rw [if_neg (by omega)]) (by omega)))
                    clear HU HH hsur hz x0 x1 y0 y1 hx hy
                    go_wp2_with fail
                    refine (Tryf.Buffer_WriteRune_k w.heap.size w.heap.size _ (z) (by omega) (by omega) _ (by exact HBUF.out) (by have := HBW.out.size; omega) (Lib.byteCells_one _) (by rw [Lib.byteCells_length]; omega)).mono ?_
                    rintro e wz ⟨rfl, hBz, hbz, _⟩
                    rw [← Lib.byteCells_encodeRune, ← Lib.byteCells_append] at hBz
                    have hbl2 : (bs ++ Lib.encodeRune (z)).length ≤ 4 * (i + 6) := by
                      rw [List.length_append]
                      have := enc_le (z)
                      omega
                    have HBW2 := Lib.hid (bel_tr HBW.out hbz)
                    have HBUF2 := Lib.hid hBz
                    clear hBz hbz
                    generalize (bs ++ Lib.encodeRune (z)) = bs2 at hbl2 HBUF2
                    go_wp2
                    go_roundw
                    case rel => exact ⟨i + 6, bs2, by go_num, by omega, HOK2, HBUF2, hbl2, HBW2⟩
                    case measure => simp [intOf]; omega
                · have HE : Hid (okAt s 0 = false) := Lib.hid (HOK.out.trans (ok_zero hlt (by rw [HU.out, if_neg HU6.out, show i + 2 = i + 1 + 1 by omega, hh])))
                  clear hh
                  have HBUF := Lib.hid (isBuffer_grown HBUF.out (grown_of_below (row := none) hb3) (fun g e => by cases e))
                  have HBW := Lib.hid (HBW.out.trans (hb3.mono HBW.out.size))
                  clear hb3
                  have qs4 : (4 : Int) ≤ (s.size : Int) := by omega
                  have qs4' : 4 ≤ s.size := by omega
                  have HSL : Hid (∀ V, Below w3.heap.size w3 V → V.cell? ⟨lb, lo, none⟩ = some (.pointer none) ∧ V.cell? ⟨lb, lo + 1, none⟩ = some (.string ⟨#[]⟩) ∧ V.cell? ⟨lb, lo + 2, none⟩ = some (.int .i64 0) ∧ V.cell? ⟨lb, lo + 3, none⟩ = some (.int .i64 0) ∧ V.cell? ⟨lb, lo + 4, none⟩ = some (.int .i64 0) ∧ V.cell? ⟨lb, lo + 5, none⟩ = some (.int .i64 0)) := Lib.hid fun V hV => HLOC.out V (HBW.out.trans (hV.mono HBW.out.size))
                  have HFW : Hid (F.answers w3.tape) := Lib.hid (by rw [HBW.out.tape]; exact HF.out)
                  go_wp2_with fail
                  go_region_held3 (fun V => V.cell? ⟨lb, lo, none⟩ = some (.pointer none) ∧ V.cell? ⟨lb, lo + 1, none⟩ = some (.string ⟨#[]⟩) ∧ V.cell? ⟨lb, lo + 2, none⟩ = some (.int .i64 0) ∧ V.cell? ⟨lb, lo + 3, none⟩ = some (.int .i64 0) ∧ V.cell? ⟨lb, lo + 4, none⟩ = some (.int .i64 0) ∧ V.cell? ⟨lb, lo + 5, none⟩ = some (.int .i64 0))
                    (first | exact HSL.out _ (by exact Below.refl _ w3) | exact HSL.out _ (by exact belo0 (Below.refl _ _)) | exact HSL.out _ (by exact belo1 (Below.refl _ _)) | exact HSL.out _ (by exact belo1 hb9))
                    (first | (refine FmtS.step_sprintfS (by rfl) _ _ (by rfl) fmS1 w3.heap.size _ (by rfl) (by rfl) fmS11 fmS12 (by exact (cell_of_row _ _ 0 _ _ _ (heap_alloc_new w3 _)).trans rfl) F (by exact HFW.out) ?_; intro tx) | (go_at_call 28; refine (mkStat _ _).mono ?_; rintro e w9 ⟨rfl, hb9⟩))
                  all_goals
                    have HB9 : Hid (Below w.heap.size w w9) := Lib.hid (HBW.out.trans ((by exact belo1 hb9 : Below w3.heap.size w3 w9).mono HBW.out.size))
                    clear hb9
                    go_wp2
                    go_ret2
                    exact ⟨.inr ⟨HE.out, _, rfl⟩, HB9.out⟩
          · have HE : Hid (okAt s 0 = false) := Lib.hid (HOK.out.trans (ok_zero hlt (esc_unknown h92 h1 hns c117)))
            have r34 := beq34 (rune_no h1 c34 (by omega))
            have r39 := beq34 (rune_no h1 c39 (by omega))
            have r92 := beq34 (rune_no h1 c92 (by omega))
            have r47 := beq34 (rune_no h1 c47 (by omega))
            have r98 := beq34 (rune_no h1 c98 (by omega))
            have r102 := beq34 (rune_no h1 c102 (by omega))
            have r110 := beq34 (rune_no h1 c110 (by omega))
            have r114 := beq34 (rune_no h1 c114 (by omega))
            have r116 := beq34 (rune_no h1 c116 (by omega))
            have r117 := beq34 (rune_no h1 c117 (by omega))
            have hw2 := width_le s (i + 1) h1
            generalize (Utf8.decode s (i + 1)).1 = r at r34 r39 r92 r47 r98 r102 r110 r114 r116 r117
            generalize (Utf8.decode s (i + 1)).2 = k at hw2
            clear hns c34 c39 c92 c47 c98 c102 c110 c114 c116 c117
            have HSL : Hid (∀ V, Below w2.heap.size w2 V → V.cell? ⟨lb, lo, none⟩ = some (.pointer none) ∧ V.cell? ⟨lb, lo + 1, none⟩ = some (.string ⟨#[]⟩) ∧ V.cell? ⟨lb, lo + 2, none⟩ = some (.int .i64 0) ∧ V.cell? ⟨lb, lo + 3, none⟩ = some (.int .i64 0) ∧ V.cell? ⟨lb, lo + 4, none⟩ = some (.int .i64 0) ∧ V.cell? ⟨lb, lo + 5, none⟩ = some (.int .i64 0)) := Lib.hid fun V hV => HLOC.out V (HBW.out.trans (hV.mono HBW.out.size))
            have HFW : Hid (F.answers w2.tape) := Lib.hid (by rw [HBW.out.tape]; exact HF.out)
            go_wp2_with fail
            go_region_held3 (fun V => V.cell? ⟨lb, lo, none⟩ = some (.pointer none) ∧ V.cell? ⟨lb, lo + 1, none⟩ = some (.string ⟨#[]⟩) ∧ V.cell? ⟨lb, lo + 2, none⟩ = some (.int .i64 0) ∧ V.cell? ⟨lb, lo + 3, none⟩ = some (.int .i64 0) ∧ V.cell? ⟨lb, lo + 4, none⟩ = some (.int .i64 0) ∧ V.cell? ⟨lb, lo + 5, none⟩ = some (.int .i64 0))
              (first | exact HSL.out _ (by exact Below.refl _ w2) | exact HSL.out _ (by exact belo0 (Below.refl _ _)) | exact HSL.out _ (by exact belo1 (Below.refl _ _)) | exact HSL.out _ (by exact belo1 hb9))
              (first | (refine FmtS.step_sprintfC (by rfl) _ _ (by rfl) fmC w2.heap.size _ (by rfl) (by rfl) fmC1 fmC2 (by exact (cell_of_row _ _ 0 _ _ _ (heap_alloc_new w2 _)).trans rfl) F (by exact HFW.out) ?_; intro tx) | (go_at_call 28; refine (mkStat _ _).mono ?_; rintro e w9 ⟨rfl, hb9⟩))
            all_goals
              have HB9 : Hid (Below w.heap.size w w9) := Lib.hid (HBW.out.trans ((by exact belo1 hb9 : Below w2.heap.size w2 w9).mono HBW.out.size))
              clear hb9
              go_wp2
              go_ret2
              exact ⟨.inr ⟨HE.out, _, rfl⟩, HB9.out⟩
        · have HE : Hid (okAt s 0 = false) := Lib.hid (HOK.out.trans (ok_zero hlt (esc_trunc h92 (by omega))))
          have q1 : (s.size : Int) ≤ (i : Int) + 1 := by omega
          obtain ⟨l0, l1, l2, l3, l4, l5⟩ := HLOC.out _ HBW.out
          go_wp2_with fail
          refine (mkStat _ _).mono ?_
          rintro e w9 ⟨rfl, hb9⟩
          have HB9 := Lib.hid (HBW.out.trans (hb9.mono HBW.out.size))
          clear hb9 l0 l1 l2 l3 l4 l5
          go_wp2
          go_ret2
          exact ⟨.inr ⟨HE.out, _, rfl⟩, HB9.out⟩
      · have HOK2 : Hid (okAt s 0 = okAt s (i + (Utf8.decode s i).2)) := Lib.hid (HOK.out.trans (ok_rune hlt h92))
        have r92 := beq34 (rune_no hlt h92 (by omega))
        have hrl := decode_le s i
        have hw1 := width_le s i hlt
        have hwp := width_pos s i hlt
        generalize (Utf8.decode s i).1 = r at r92 hrl
        generalize (Utf8.decode s i).2 = k at hw1 hwp HOK2
        clear h92
        go_wp2_with fail
        refine (Tryf.Buffer_WriteRune_k w.heap.size w.heap.size _ ((r : Int)) (by omega) (by omega) _ (by exact HBUF.out) (by have := HBW.out.size; omega) (Lib.byteCells_one _) (by rw [Lib.byteCells_length]; omega)).mono ?_
        rintro e wz ⟨rfl, hBz, hbz, _⟩
        rw [← Lib.byteCells_encodeRune, ← Lib.byteCells_append] at hBz
        have hbl2 : (bs ++ Lib.encodeRune ((r : Int))).length ≤ 4 * (i + k) := by
          rw [List.length_append]
          have := enc_le ((r : Int))
          omega
        have HBW2 := Lib.hid (bel_tr HBW.out hbz)
        have HBUF2 := Lib.hid hBz
        clear hBz hbz
        generalize (bs ++ Lib.encodeRune ((r : Int))) = bs2 at hbl2 HBUF2
        go_wp2
        go_roundw
        case rel => exact ⟨i + k, bs2, by go_num, by omega, HOK2, HBUF2, hbl2, HBW2⟩
        case measure => simp [intOf]; omega
    · obtain rfl : i = s.size := by omega
      have qi : ¬ (s.size : Int) < (s.size : Int) := by omega
      go_wp2_with fail
      refine (Tryf.Buffer_String w.heap.size w.heap.size _ _ HBUF.out).mono ?_
      rintro e w6 ⟨rfl, n6, rfl⟩
      have HOKE : Hid (okAt s 0 = true) := Lib.hid (by rw [HOK.out]; exact okAt_end (Nat.le_refl _))
      have HBE : Hid (Below w.heap.size w (wr.drewN n6)) := Lib.hid (drewN_below HBW.out n6)
      go_wp2
      go_ret2
      exact ⟨.inl ⟨HOKE.out, _, rfl⟩, HBE.out⟩

end Go.Proofs.YtgdlfcgboghadaaFmt
