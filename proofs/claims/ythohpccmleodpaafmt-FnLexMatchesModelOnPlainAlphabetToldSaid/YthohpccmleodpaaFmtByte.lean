/-
  Bytes of a text, newlines before a place, and what decoding a rune tells of them. Plain facts: no program is named here.
-/
import Derived.Lib.SpaceUEq
import Derived.Lib.RuneLoops
import Derived.Lib.RuneCount
import Derived.Lib.DecodeN
import Derived.Lib.MapLaws
import Derived.Laws.RangeAny
namespace Go.Proofs.YthohpccmleodpaaFmt
open Go

def byteAt (s : ByteArray) (i : Nat) : Nat := (s.get! i).toNat
/-- How many newline bytes lie before b. -/
def nlc (s : ByteArray) : Nat → Nat
  | 0 => 0
  | b + 1 => nlc s b + if byteAt s b = 10 then 1 else 0
/-- The place just behind the last newline before b. -/
def nle (s : ByteArray) : Nat → Nat
  | 0 => 0
  | b + 1 => if byteAt s b = 10 then b + 1 else nle s b

theorem nlc_nl {s : ByteArray} {b : Nat} (h : byteAt s b = 10) : nlc s (b + 1) = nlc s b + 1 := by rw [nlc, if_pos h]
theorem nlc_no {s : ByteArray} {b : Nat} (h : ¬ byteAt s b = 10) : nlc s (b + 1) = nlc s b := by rw [nlc, if_neg h]; rfl
theorem nle_nl {s : ByteArray} {b : Nat} (h : byteAt s b = 10) : nle s (b + 1) = b + 1 := by rw [nle, if_pos h]
theorem nle_no {s : ByteArray} {b : Nat} (h : ¬ byteAt s b = 10) : nle s (b + 1) = nle s b := by rw [nle, if_neg h]
theorem nlc_le (s : ByteArray) : ∀ b, nlc s b ≤ b
  | 0 => Nat.le_refl _
  | b + 1 => by have := nlc_le s b; unfold nlc; split <;> omega
theorem nle_le (s : ByteArray) : ∀ b, nle s b ≤ b
  | 0 => Nat.le_refl _
  | b + 1 => by have := nle_le s b; unfold nle; split <;> omega

theorem byte_of_get (s : ByteArray) (p : Nat) (h : p < s.size) : (s[p]'h).toNat = byteAt s p := by
  unfold byteAt ByteArray.get!
  obtain ⟨d⟩ := s
  simp only [ByteArray.size] at h
  simp [getElem!_pos d p h]
  rfl

/-- What decoding at a place tells of the bytes there. -/
theorem decode_low (s : ByteArray) (p : Nat) (h : p < s.size) (hl : byteAt s p < 128) : Utf8.decode s p = (byteAt s p, 1) := by
  rw [← byte_of_get s p h] at hl ⊢
  exact decode_ascii s p h hl
theorem decode_hi (s : ByteArray) (p : Nat) (h : p < s.size) (hl : 128 ≤ byteAt s p) : 128 ≤ (Utf8.decode s p).1 ∧ ∀ j, j < (Utf8.decode s p).2 → 128 ≤ byteAt s (p + j) := by
  refine ⟨(decode_high s p h (by rw [byte_of_get]; exact hl)).1, ?_⟩
  have hc := Lib.decodeN_conts (s.size - p) (s.get! p).toNat (s.get! (p + 1)).toNat (s.get! (p + 2)).toNat (s.get! (p + 3)).toNat
  rw [← Lib.decode_at] at hc
  obtain ⟨h1, h2, h3, h4⟩ := hc
  intro j hj
  have hj4 : j < 4 := by omega
  match j, hj4 with
  | 0, _ => exact hl
  | 1, _ => have := (h1 (by omega)).1; unfold byteAt; omega
  | 2, _ => have := (h2 (by omega)).1; unfold byteAt; omega
  | 3, _ => have := (h3 (by omega)).1; unfold byteAt; omega
  | n + 4, h => exact absurd h (by omega)
theorem width4 (s : ByteArray) (p : Nat) : (Utf8.decode s p).2 ≤ 4 := by
  have hc := Lib.decodeN_conts (s.size - p) (s.get! p).toNat (s.get! (p + 1)).toNat (s.get! (p + 2)).toNat (s.get! (p + 3)).toNat
  rw [← Lib.decode_at] at hc
  exact hc.2.2.2

theorem nl_skip (s : ByteArray) (p : Nat) : ∀ k, (∀ j, j < k → ¬ byteAt s (p + j) = 10) → nlc s (p + k) = nlc s p ∧ nle s (p + k) = nle s p
  | 0, _ => ⟨rfl, rfl⟩
  | k + 1, h => by
    obtain ⟨h1, h2⟩ := nl_skip s p k (fun j hj => h j (by omega))
    have h3 := h k (by omega)
    rw [show p + (k + 1) = (p + k) + 1 by omega]
    rw [nlc_no h3, nle_no h3]
    exact ⟨h1, h2⟩

theorem nl_step (s : ByteArray) (p : Nat) (h : p < s.size) :
    ((Utf8.decode s p).1 = 10 → nlc s (p + (Utf8.decode s p).2) = nlc s p + 1 ∧ nle s (p + (Utf8.decode s p).2) = p + (Utf8.decode s p).2) ∧
    (¬ (Utf8.decode s p).1 = 10 → nlc s (p + (Utf8.decode s p).2) = nlc s p ∧ nle s (p + (Utf8.decode s p).2) = nle s p) := by
  by_cases hl : byteAt s p < 128
  · rw [decode_low s p h hl]
    refine ⟨fun e => ?_, fun e => ?_⟩
    · exact ⟨nlc_nl e, nle_nl e⟩
    · exact nl_skip s p 1 (fun j hj => by obtain rfl : j = 0 := by omega
                                          exact e)
  · obtain ⟨h1, h2⟩ := decode_hi s p h (by omega)
    exact ⟨fun e => absurd e (by omega), fun _ => nl_skip s p _ (fun j hj => by have := h2 j hj; omega)⟩

end Go.Proofs.YthohpccmleodpaaFmt
