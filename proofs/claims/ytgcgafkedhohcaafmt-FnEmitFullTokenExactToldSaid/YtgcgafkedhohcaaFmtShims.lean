/-
  The laws' helpers on a lexer: lineCol; the shims that read or move it.
-/
import Derived.Test.YtgcgafkedhohcaaFmtNl
namespace Go.Proofs.YtgcgafkedhohcaaFmt
open Go Go.RowKit Go.Shelf

set_option maxHeartbeats 400000 in
theorem lineCol (s : ByteArray) (b : Nat) (hb : b ≤ s.size) (hs : s.size ≤ 1099511627775) (w : World) :
    Calls Tryf.prog 44 #[.string s, .int .i64 b] w fun e w' => e = .returned (.tuple #[.int .i64 (1 + (nlc s b : Int)), .int .i64 ((b : Int) - nle s b + 1)]) ∧ w = w' := by
  go_enter Tryf.func44, Tryf.ntmps44
  go_wp2
  go_loop [6, 7, 8] (fun l st i => ∃ k : Nat, k ≤ b ∧ i = .int .i64 k ∧ l = .int .i64 (1 + (nlc s k : Int)) ∧ st = .int .i64 (nle s k : Int)) (fun _ _ i => b - (intOf i).toNat)
  case atStart => exact ⟨0, Nat.zero_le _, rfl, rfl, rfl⟩
  case round =>
    obtain ⟨k, hk, rfl, rfl, rfl⟩ := hrel
    have h1 := nlc_le s k
    have h2 := nle_le s k
    by_cases hlt : k < b
    · have hks : k < s.size := by omega
      have hbyte := byte_of_get s k hks
      by_cases h10 : byteAt s k = 10
      · have e1 := Lib.hid (nlc_nl h10)
        have e2 := Lib.hid (nle_nl h10)
        have hB : (((s[k]'hks).toNat : Int) == 10) = true := beq_iff_eq.2 (by omega)
        clear h10 hbyte
        go_wp2
        go_round
        case rel => exact ⟨k + 1, by omega, by go_num, by rw [e1.out]; go_num, by rw [e2.out]; go_num⟩
        case measure => simp [intOf]; omega
      · have e1 := Lib.hid (nlc_no h10)
        have e2 := Lib.hid (nle_no h10)
        have hB : (((s[k]'hks).toNat : Int) == 10) = false := beq_eq_false_iff_ne.2 (by omega)
        clear h10 hbyte
        go_wp2
        go_round
        case rel => exact ⟨k + 1, by omega, by go_num, by rw [e1.out], by rw [e2.out]⟩
        case measure => simp [intOf]; omega
    · obtain rfl : k = b := by omega
      go_wp2
      go_ret2
      exact ⟨rfl, rfl⟩

theorem zzMake (s : ByteArray) (hs : s.size ≤ 1099511627775) (w : World) : Calls Tryf.prog 13 #[.string s] w (Made w ⟨#[]⟩ ⟨#[]⟩ s) := by
  go_enter Tryf.func13, Tryf.ntmps13
  go_wp2_with fail
  refine (makeLexer ⟨#[]⟩ ⟨#[]⟩ s (by omega) _).mono ?_
  rintro e w' ⟨N, M, rfl, h⟩
  go_wp2
  go_ret
  exact ⟨N, M, rfl, h⟩

theorem zzNext (a : Nat) (L : LexSt) (w : World) (h : LexAt w a L) (hs : L.inp.size ≤ 1099511627775) (hl0 : 0 ≤ L.ln) (hl1 : L.ln ≤ 1099511627776) (hT : Lib.Utf8Tabs 0 1 w) :
    Calls Tryf.prog 14 #[.pointer (some ⟨a, 0, none⟩)] w fun e w' => e = .returned (.int .i32 L.rune) ∧ LexAt w' a L.step ∧ w.grownBy w' (some a) := by
  have H := Lib.hid h
  clear h
  go_enter Tryf.func14, Tryf.ntmps14
  go_wp2_with fail
  refine (next_any a L _ H.out (by omega) hl0 hl1 hT).mono ?_
  rintro e w' ⟨rfl, h1, h2⟩
  have H1 := Lib.hid h1
  clear h1
  go_wp2
  go_ret
  exact ⟨rfl, H1.out, h2⟩

theorem zzPos (a : Nat) (L : LexSt) (w : World) (h : LexAt w a L) :
    Calls Tryf.prog 15 #[.pointer (some ⟨a, 0, none⟩)] w fun e w' => e = .returned (.tuple #[.int .i64 L.bn, .int .i64 L.ln, .int .i64 L.ls]) ∧ ∃ n, w' = w.drewN n := by
  have c10 : w.cell? ⟨a, 10, none⟩ = some (.int .i64 L.bn) := h.cell 10
  have c11 : w.cell? ⟨a, 11, none⟩ = some (.int .i64 L.ln) := h.cell 11
  have c12 : w.cell? ⟨a, 12, none⟩ = some (.int .i64 L.ls) := h.cell 12
  clear h
  go_enter Tryf.func15, Tryf.ntmps15
  go_wp2
  go_quiet (fail)
  go_wp2
  go_ret3
  exact ⟨rfl, _, rfl⟩

theorem zzTokenStart (a : Nat) (L : LexSt) (w : World) (h : LexAt w a L) :
    Calls Tryf.prog 16 #[.pointer (some ⟨a, 0, none⟩)] w fun e w' => e = .returned (.tuple #[.int .i64 L.ts, .int .i64 L.tl, .int .i64 L.tc]) ∧ ∃ n, w' = w.drewN n := by
  have c6 : w.cell? ⟨a, 6, none⟩ = some (.int .i64 L.ts) := h.cell 6
  have c7 : w.cell? ⟨a, 7, none⟩ = some (.int .i64 L.tl) := h.cell 7
  have c8 : w.cell? ⟨a, 8, none⟩ = some (.int .i64 L.tc) := h.cell 8
  clear h
  go_enter Tryf.func16, Tryf.ntmps16
  go_wp2
  go_quiet (fail)
  go_wp2
  go_ret3
  exact ⟨rfl, _, rfl⟩

theorem zzReset (a : Nat) (L : LexSt) (w : World) (h : LexAt w a L) (hb1 : L.bn ≤ 1099511627775) (hs0 : 0 ≤ L.ls) (hs1 : L.ls ≤ L.bn) :
    Calls Tryf.prog 39 #[.pointer (some ⟨a, 0, none⟩)] w fun e w' => e = .returned (.tuple #[]) ∧ LexAt w' a L.reset ∧ w.grownBy w' (some a) := by
  have H := Lib.hid h
  clear h
  go_enter Tryf.func39, Tryf.ntmps39
  go_wp2_with fail
  refine (resetTokenStart a L _ H.out (by omega) hs0 hs1).mono ?_
  rintro e w' ⟨rfl, h1, h2⟩
  have H1 := Lib.hid h1
  clear h1
  go_wp2
  go_end0
  exact ⟨rfl, H1.out, h2⟩

/-- What a slice's length is. -/
def lenOf : Value → Nat
  | .slice _ n _ => n
  | _ => 0
theorem zzFodderLen (a : Nat) (L : LexSt) (w : World) (h : LexAt w a L) (p : Option Addr) (n c : Nat) (hf : L.fod = .slice p n c) :
    Calls Tryf.prog 20 #[.pointer (some ⟨a, 0, none⟩)] w fun e w' => e = .returned (.int .i64 n) ∧ w = w' := by
  have c5 : w.cell? ⟨a, 5, none⟩ = some (.slice p n c) := by rw [← hf]; exact h.cell 5
  clear h hf
  go_enter Tryf.func20, Tryf.ntmps20
  go_wp2
  go_ret
  exact ⟨rfl, rfl⟩
theorem zzTokensLen (a : Nat) (L : LexSt) (w : World) (h : LexAt w a L) (p : Option Addr) (n c : Nat) (hf : L.toks = .slice p n c) :
    Calls Tryf.prog 21 #[.pointer (some ⟨a, 0, none⟩)] w fun e w' => e = .returned (.int .i64 n) ∧ w = w' := by
  have c4 : w.cell? ⟨a, 4, none⟩ = some (.slice p n c) := by rw [← hf]; exact h.cell 4
  clear h hf
  go_enter Tryf.func21, Tryf.ntmps21
  go_wp2
  go_ret
  exact ⟨rfl, rfl⟩

theorem tabs_kept {w w' : World} {a : Nat} (h : Lib.Utf8Tabs 0 1 w) (hg : w.grownBy w' (some a)) (h0 : 0 < w.heap.size) (h1 : 1 < w.heap.size) (ha0 : 0 ≠ a) (ha1 : 1 ≠ a) : Lib.Utf8Tabs 0 1 w' := by
  obtain ⟨t1, t2⟩ := h
  have b0 := hg.block _ h0 (fun e => ha0 (by cases e; rfl))
  have b1 := hg.block _ h1 (fun e => ha1 (by cases e; rfl))
  exact ⟨fun c hc => (World.cell?_of_block (a := ⟨0, c, none⟩) b0).trans (t1 c hc), fun i hi => ⟨(World.cell?_of_block (a := ⟨1, 2 * i, none⟩) b1).trans (t2 i hi).1, (World.cell?_of_block (a := ⟨1, 2 * i + 1, none⟩) b1).trans (t2 i hi).2⟩⟩
theorem tabs_below {w w' : World} (h : Lib.Utf8Tabs 0 1 w) (hg : Below w.heap.size w w') (h0 : 0 < w.heap.size) (h1 : 1 < w.heap.size) : Lib.Utf8Tabs 0 1 w' := by
  obtain ⟨t1, t2⟩ := h
  exact ⟨fun c hc => (hg.cell (p := ⟨0, c, none⟩) h0).trans (t1 c hc), fun i hi => ⟨(hg.cell (p := ⟨1, 2 * i, none⟩) h1).trans (t2 i hi).1, (hg.cell (p := ⟨1, 2 * i + 1, none⟩) h1).trans (t2 i hi).2⟩⟩
theorem tabs_lt {w : World} (h : Lib.Utf8Tabs 0 1 w) : 0 < w.heap.size ∧ 1 < w.heap.size := by
  obtain ⟨t1, t2⟩ := h
  have a1 := t1 0 (by decide)
  have a2 := (t2 0 (by decide)).1
  exact ⟨World.block_lt_of_cell? w ⟨0, 0, none⟩ a1, World.block_lt_of_cell? w ⟨1, 2 * 0, none⟩ a2⟩

end Go.Proofs.YtgcgafkedhohcaaFmt
