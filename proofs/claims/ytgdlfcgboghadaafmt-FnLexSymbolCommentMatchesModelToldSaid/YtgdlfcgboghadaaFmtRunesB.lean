/-
  The bytes of runes, and the runes of bytes that hold no newline. No program is named here.
-/
import Derived.Test.YtgdlfcgboghadaaFmtLinesLaw
import Derived.Test.YtgdlfcgboghadaaFmtStrip
import Derived.Laws.Cover4
namespace Go.Proofs.YtgdlfcgboghadaaFmt
open Go

theorem encode_of {r : Int} {c : Nat} (hc : (if Utf8.valid r then r.toNat else Utf8.runeError) = c) : (Utf8.encode r).data.toList =
    if c < 128 then [UInt8.ofNat c] else if c < 2048 then [UInt8.ofNat (192 + c / 64), UInt8.ofNat (128 + c % 64)]
    else if c < 65536 then [UInt8.ofNat (224 + c / 4096), UInt8.ofNat (128 + c / 64 % 64), UInt8.ofNat (128 + c % 64)]
    else [UInt8.ofNat (240 + c / 262144), UInt8.ofNat (128 + c / 4096 % 64), UInt8.ofNat (128 + c / 64 % 64), UInt8.ofNat (128 + c % 64)] := by
  unfold Utf8.encode
  simp only [hc]
  repeat' split
  all_goals rfl
theorem valid_in {r : Int} (h : (0 ≤ r ∧ r < 55296) ∨ (57344 ≤ r ∧ r ≤ 1114111)) : (if Utf8.valid r then r.toNat else Utf8.runeError) = r.toNat := by
  have : Utf8.valid r = true := by simp [Utf8.valid]; omega
  rw [this]; rfl
theorem valid_out {r : Int} (h : ¬ ((0 ≤ r ∧ r < 55296) ∨ (57344 ≤ r ∧ r ≤ 1114111))) : (if Utf8.valid r then r.toNat else Utf8.runeError) = 65533 := by
  have : Utf8.valid r = false := by rw [Bool.eq_false_iff]; simp [Utf8.valid]; omega
  rw [this]; rfl
theorem encode_eq (r : Int) : (Utf8.encode r).data.toList = Lib.encodeRune r := by
  unfold Lib.encodeRune
  by_cases a1 : 0 ≤ r ∧ r ≤ 127
  · rw [encode_of (valid_in (by omega)), Lib.encodeRuneZ_one a1.1 a1.2, if_pos (by omega)]
    rfl
  by_cases a2 : 128 ≤ r ∧ r ≤ 2047
  · rw [encode_of (valid_in (by omega)), Lib.encodeRuneZ_two a2.1 a2.2, if_neg (by omega), if_pos (by omega)]
    have e1 : (192 + r / 64).toNat = 192 + r.toNat / 64 := by omega
    have e2 : (128 + r % 64).toNat = 128 + r.toNat % 64 := by omega
    simp only [List.map_cons, List.map_nil, e1, e2]
  by_cases a3 : (2048 ≤ r ∧ r < 55296) ∨ (57343 < r ∧ r ≤ 65535)
  · rw [encode_of (valid_in (by omega)), Lib.encodeRuneZ_three a3, if_neg (by omega), if_neg (by omega), if_pos (by omega)]
    have e1 : (224 + r / 4096).toNat = 224 + r.toNat / 4096 := by omega
    have e2 : (128 + r / 64 % 64).toNat = 128 + r.toNat / 64 % 64 := by omega
    have e3 : (128 + r % 64).toNat = 128 + r.toNat % 64 := by omega
    simp only [List.map_cons, List.map_nil, e1, e2, e3]
  by_cases a4 : 65536 ≤ r ∧ r ≤ 1114111
  · rw [encode_of (valid_in (by omega)), Lib.encodeRuneZ_four a4.1 a4.2, if_neg (by omega), if_neg (by omega), if_neg (by omega)]
    have e0 : (240 + r / 262144).toNat = 240 + r.toNat / 262144 := by omega
    have e1 : (128 + r / 4096 % 64).toNat = 128 + r.toNat / 4096 % 64 := by omega
    have e2 : (128 + r / 64 % 64).toNat = 128 + r.toNat / 64 % 64 := by omega
    have e3 : (128 + r % 64).toNat = 128 + r.toNat % 64 := by omega
    simp only [List.map_cons, List.map_nil, e0, e1, e2, e3]
  · rw [encode_of (valid_out (by omega)), Lib.encodeRuneZ_bad (by omega)]
    rfl

theorem foldl_list (zs : List Int) : ∀ b : ByteArray, (zs.foldl (fun r n => r ++ Utf8.encode n) b).data.toList = b.data.toList ++ zs.flatMap Lib.encodeRune := by
  induction zs with
  | nil => intro b; simp
  | cons z zs ih =>
    intro b
    rw [List.foldl_cons, ih, List.flatMap_cons, ← List.append_assoc, ← encode_eq z]
    simp [ByteArray.data_append]
theorem runesBytes_list (zs : List Int) : (runesBytes zs).data.toList = zs.flatMap Lib.encodeRune := by
  have := foldl_list zs ByteArray.empty
  simpa [runesBytes] using this

theorem runes_no (c : ByteArray) (hno : ∀ p, p < c.size → byteAt c p ≠ 10) : ∀ (f p : Nat) (z : Int), z ∈ runesFrom c f p → ∀ b ∈ Lib.encodeRune z, b ≠ 10 := by
  intro f
  induction f with
  | zero => intro p z hz; simp [runesFrom] at hz
  | succ f ih =>
    intro p z hz
    unfold runesFrom at hz
    split at hz
    · rename_i hp
      rw [List.mem_cons] at hz
      rcases hz with rfl | hz
      · refine enc_no c p hp ?_
        intro h10
        by_cases hl : byteAt c p < 128
        · rw [decode_low c p hp hl] at h10
          exact hno p hp h10
        · have := (decode_hi c p hp (by omega)).1
          omega
      · exact ih _ _ hz
    · simp at hz

theorem list_byteAt (c : List UInt8) (p : Nat) (h : p < c.length) : byteAt ⟨c.toArray⟩ p = (c[p]).toNat := by
  rw [← byte_of_get _ p (by show p < c.toArray.size; simpa using h)]
  rfl

end Go.Proofs.YtgdlfcgboghadaaFmt
