/-
  Plain laws of 'srcLines': how many lines, and that each ends with its only newline. No program is named here.
-/
import Derived.Test.YtgdlfcgboghadaaFmtByte
import Derived.Test.YtgdlfcgboghadaaFmtLines
import Derived.Lib.QuoteLoop
namespace Go.Proofs.YtgdlfcgboghadaaFmt
open Go

theorem enc_low (r : Nat) (h : r < 128) : Lib.encodeRune (r : Int) = [r.toUInt8] := by
  unfold Lib.encodeRune
  rw [Lib.encodeRuneZ_one (by omega) (by omega)]
  simp
theorem encZ_hi (r : Int) (h : 128 ≤ r) : ∀ x ∈ Lib.encodeRuneZ r, 128 ≤ x := by
  intro x hx
  by_cases h1 : r ≤ 2047
  · rw [Lib.encodeRuneZ_two h h1] at hx
    simp at hx
    omega
  by_cases h2 : (2048 ≤ r ∧ r < 55296) ∨ (57343 < r ∧ r ≤ 65535)
  · rw [Lib.encodeRuneZ_three h2] at hx
    simp at hx
    omega
  by_cases h3 : 65536 ≤ r ∧ r ≤ 1114111
  · rw [Lib.encodeRuneZ_four h3.1 h3.2] at hx
    simp at hx
    omega
  · rw [Lib.encodeRuneZ_bad (by omega)] at hx
    simp at hx
    omega
theorem enc_hi (r : Int) (h : 128 ≤ r) : ∀ b ∈ Lib.encodeRune r, 128 ≤ b.toNat := by
  intro b hb
  unfold Lib.encodeRune at hb
  rw [List.mem_map] at hb
  obtain ⟨x, hx, rfl⟩ := hb
  have h1 := encZ_hi r h x hx
  have h2 := Lib.encodeRuneZ_byte r x hx
  simp
  omega

/-- A rune that is no newline is written without a newline. -/
theorem enc_no (s : ByteArray) (p : Nat) (h : p < s.size) (hn : ¬ (Utf8.decode s p).1 = 10) : ∀ b ∈ Lib.encodeRune ((Utf8.decode s p).1 : Int), b ≠ 10 := by
  intro b hb e
  subst e
  by_cases hl : byteAt s p < 128
  · rw [decode_low s p h hl] at hn hb
    rw [enc_low _ hl] at hb
    rw [List.mem_singleton] at hb
    apply hn
    have := congrArg UInt8.toNat hb
    simp at this
    omega
  · have h1 := (decode_hi s p h (by omega)).1
    have h2 := enc_hi ((Utf8.decode s p).1 : Int) (by omega) _ hb
    simp at h2

theorem lines_ok (s : ByteArray) : ∀ (f pos : Nat) (cur : List UInt8), (∀ b ∈ cur, b ≠ 10) → ∀ l ∈ linesFrom s f pos cur, ∃ c : List UInt8, l = c ++ [10] ∧ ∀ b ∈ c, b ≠ 10 := by
  intro f
  induction f with
  | zero =>
    intro pos cur hc l hl
    rw [linesFrom, List.mem_singleton] at hl
    exact ⟨cur, hl, hc⟩
  | succ f ih =>
    intro pos cur hc l hl
    by_cases hp : pos < s.size
    · by_cases hn : (Utf8.decode s pos).1 = 10
      · rw [linesFrom_nl s f pos cur hp hn, List.mem_cons] at hl
        rcases hl with hl | hl
        · rw [hn] at hl
          exact ⟨cur, hl, hc⟩
        · exact ih _ _ (by simp) l hl
      · rw [linesFrom_other s f pos cur hp hn] at hl
        refine ih _ _ ?_ l hl
        intro b hb
        rw [List.mem_append] at hb
        rcases hb with hb | hb
        · exact hc b hb
        · exact enc_no s pos hp hn b hb
    · rw [linesFrom_end s _ pos cur hp, List.mem_singleton] at hl
      exact ⟨cur, hl, hc⟩

theorem lines_len (s : ByteArray) : ∀ (f pos : Nat) (cur : List UInt8), pos ≤ s.size → s.size ≤ pos + f → (linesFrom s f pos cur).length + nlc s pos = nlc s s.size + 1 := by
  intro f
  induction f with
  | zero =>
    intro pos cur h1 h2
    obtain rfl : pos = s.size := by omega
    simp [linesFrom]
    omega
  | succ f ih =>
    intro pos cur h1 h2
    by_cases hp : pos < s.size
    · obtain ⟨n1, n2⟩ := nl_step s pos hp
      have w1 := Lib.decode_width_pos s pos hp
      have w2 : pos + (Utf8.decode s pos).2 ≤ s.size := by
        have h1 := Lib.decodeN_width_le (s.size - pos) (s.get! pos).toNat (s.get! (pos + 1)).toNat (s.get! (pos + 2)).toNat (s.get! (pos + 3)).toNat (by omega)
        rw [Lib.decode_at]
        omega
      by_cases hn : (Utf8.decode s pos).1 = 10
      · rw [linesFrom_nl s f pos cur hp hn, List.length_cons]
        have := ih (pos + (Utf8.decode s pos).2) [] w2 (by omega)
        have := (n1 hn).1
        omega
      · rw [linesFrom_other s f pos cur hp hn]
        have := ih (pos + (Utf8.decode s pos).2) (cur ++ Lib.encodeRune (Utf8.decode s pos).1) w2 (by omega)
        have := (n2 hn).1
        omega
    · obtain rfl : pos = s.size := by omega
      rw [linesFrom_end s _ _ cur hp]
      simp
      omega

theorem enc_len (r : Int) : (Lib.encodeRune r).length ≤ 4 := by
  unfold Lib.encodeRune
  rw [List.length_map]
  exact Lib.encodeRuneZ_length_le r
theorem lines_le (s : ByteArray) : ∀ (f pos : Nat) (cur : List UInt8), pos ≤ s.size → cur.length ≤ 4 * pos → ∀ l ∈ linesFrom s f pos cur, l.length ≤ 4 * s.size + 1 := by
  intro f
  induction f with
  | zero =>
    intro pos cur h1 h2 l hl
    rw [linesFrom, List.mem_singleton] at hl
    subst hl
    simp
    omega
  | succ f ih =>
    intro pos cur h1 h2 l hl
    have he := enc_len ((Utf8.decode s pos).1 : Int)
    by_cases hp : pos < s.size
    · have w1 := Lib.decode_width_pos s pos hp
      have w2 : pos + (Utf8.decode s pos).2 ≤ s.size := by
        have h1 := Lib.decodeN_width_le (s.size - pos) (s.get! pos).toNat (s.get! (pos + 1)).toNat (s.get! (pos + 2)).toNat (s.get! (pos + 3)).toNat (by omega)
        rw [Lib.decode_at]
        omega
      by_cases hn : (Utf8.decode s pos).1 = 10
      · rw [linesFrom_nl s f pos cur hp hn, List.mem_cons] at hl
        rcases hl with hl | hl
        · subst hl
          rw [List.length_append]
          omega
        · exact ih _ _ w2 (by simp) l hl
      · rw [linesFrom_other s f pos cur hp hn] at hl
        exact ih _ _ w2 (by rw [List.length_append]; omega) l hl
    · rw [linesFrom_end s _ pos cur hp, List.mem_singleton] at hl
      subst hl
      simp
      omega
theorem srcLines_le (s : ByteArray) : ∀ l ∈ srcLines s, l.length ≤ 4 * s.size + 1 := lines_le s s.size 0 [] (Nat.zero_le _) (by simp)

theorem srcLines_len (s : ByteArray) : (srcLines s).length = nlc s s.size + 1 := by
  have := lines_len s s.size 0 [] (Nat.zero_le _) (by omega)
  exact this
theorem srcLines_ok (s : ByteArray) : ∀ l ∈ srcLines s, ∃ c : List UInt8, l = c ++ [10] ∧ ∀ b ∈ c, b ≠ 10 := lines_ok s s.size 0 [] (by simp)

end Go.Proofs.YtgdlfcgboghadaaFmt
