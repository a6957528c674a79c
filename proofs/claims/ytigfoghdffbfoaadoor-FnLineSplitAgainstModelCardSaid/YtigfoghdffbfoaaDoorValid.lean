/-
  Well-formed UTF-8, as a plain predicate: every rune that decoding meets is read from valid bytes, and writes out as those bytes. No program is named here.
-/
import Derived.Test.YtigfoghdffbfoaaDoorByte
import Derived.Lib.MapLaws
namespace Go.Proofs.YtigfoghdffbfoaaDoor
open Go

/-- The bytes at p are valid. -/
def good (s : ByteArray) (p : Nat) : Prop := ¬ ((Utf8.decode s p).1 = 65533 ∧ (Utf8.decode s p).2 = 1)

/-- Where the n-th rune begins. -/
def bpos (s : ByteArray) : Nat → Nat
  | 0 => 0
  | n + 1 => if bpos s n < s.size then bpos s n + (Utf8.decode s (bpos s n)).2 else bpos s n

def ValidU (s : ByteArray) : Prop := ∀ n, bpos s n < s.size → good s (bpos s n)

theorem bpos_next {s : ByteArray} {n : Nat} (h : bpos s n < s.size) : bpos s (n + 1) = bpos s n + (Utf8.decode s (bpos s n)).2 := by rw [bpos, if_pos h]
theorem bpos_stop {s : ByteArray} {n : Nat} (h : bpos s n = s.size) : ∀ k, bpos s (n + k) = s.size
  | 0 => h
  | k + 1 => by
    have := bpos_stop h k
    show bpos s ((n + k) + 1) = _
    rw [bpos, if_neg (by omega)]
    exact this
/-- What a check that goes from rune to rune has shown when it has come to the end. -/
theorem valid_of {s : ByteArray} {n : Nat} (h : bpos s n = s.size) (hg : ∀ m, m < n → good s (bpos s m)) : ValidU s := by
  intro m hm
  by_cases hmn : m < n
  · exact hg m hmn
  · have := bpos_stop h (m - n)
    rw [show n + (m - n) = m by omega] at this
    omega
theorem good_next {s : ByteArray} {n : Nat} (hg : ∀ m, m < n → good s (bpos s m)) (h : good s (bpos s n)) : ∀ m, m < n + 1 → good s (bpos s m) := by
  intro m hm
  by_cases hmn : m < n
  · exact hg m hmn
  · obtain rfl : m = n := by omega
    exact h

theorem enc_good (s : ByteArray) (p : Nat) (h : p < s.size) (hg : good s p) : Lib.encodeRune ((Utf8.decode s p).1 : Int) = (s.data.toList.drop p).take (Utf8.decode s p).2 := by
  have e := Lib.decodeL_drop s p
  have := Lib.encode_decode (s.data.toList.drop p) (by
    intro h0
    have h1 := congrArg List.length h0
    rw [List.length_drop, Array.length_toList] at h1
    have : s.data.size = s.size := rfl
    simp at h1
    omega) (by rw [e]; exact hg)
  rw [e] at this
  exact this

theorem good_low {s : ByteArray} {p : Nat} (h : p < s.size) (hl : byteAt s p < 128) : good s p := by
  intro hg
  rw [decode_low s p h hl] at hg
  have := hg.1
  dsimp only at this
  omega
theorem good_wide {s : ByteArray} {p : Nat} (h : 2 ≤ (Utf8.decode s p).2) : good s p := fun hg => by have := hg.2; omega

theorem dec2 (s : ByteArray) (p : Nat) (hp : p + 1 < s.size) (h0 : 194 ≤ byteAt s p) (h0' : byteAt s p ≤ 223) (h1 : 128 ≤ byteAt s (p + 1)) (h1' : byteAt s (p + 1) ≤ 191) : (Utf8.decode s p).2 = 2 := by
  unfold byteAt at *
  rw [Lib.decode_at, Lib.decodeN, if_neg (by omega), if_pos (by omega), if_pos (by omega)]
theorem dec3 (s : ByteArray) (p : Nat) (hp : p + 2 < s.size) (h0 : 224 ≤ byteAt s p) (h0' : byteAt s p ≤ 239) (h1 : 128 ≤ byteAt s (p + 1)) (h1' : byteAt s (p + 1) ≤ 191) (hlo : byteAt s p = 224 → 160 ≤ byteAt s (p + 1)) (hhi : byteAt s p = 237 → byteAt s (p + 1) ≤ 159)
    (h2 : 128 ≤ byteAt s (p + 2)) (h2' : byteAt s (p + 2) ≤ 191) : (Utf8.decode s p).2 = 3 := by
  unfold byteAt at *
  rw [Lib.decode_at, Lib.decodeN, if_neg (by omega), if_neg (by omega), if_pos (by omega), if_pos (by omega)]
theorem dec4 (s : ByteArray) (p : Nat) (hp : p + 3 < s.size) (h0 : 240 ≤ byteAt s p) (h0' : byteAt s p ≤ 244) (h1 : 128 ≤ byteAt s (p + 1)) (h1' : byteAt s (p + 1) ≤ 191) (hlo : byteAt s p = 240 → 144 ≤ byteAt s (p + 1)) (hhi : byteAt s p = 244 → byteAt s (p + 1) ≤ 143)
    (h2 : 128 ≤ byteAt s (p + 2)) (h2' : byteAt s (p + 2) ≤ 191) (h3 : 128 ≤ byteAt s (p + 3)) (h3' : byteAt s (p + 3) ≤ 191) : (Utf8.decode s p).2 = 4 := by
  unfold byteAt at *
  rw [Lib.decode_at, Lib.decodeN, if_neg (by omega), if_neg (by omega), if_neg (by omega), if_pos (by omega), if_pos (by omega)]

end Go.Proofs.YtigfoghdffbfoaaDoor
