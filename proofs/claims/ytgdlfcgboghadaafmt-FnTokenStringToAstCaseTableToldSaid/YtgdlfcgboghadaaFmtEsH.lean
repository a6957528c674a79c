/-
  Four hexadecimal digits: hex.DecodeString on a piece of the text.
-/
import Derived.Test.YtgdlfcgboghadaaFmtShelf
import Derived.Test.YtgdlfcgboghadaaFmtEsP
import Derived.Lib.HexFns2
import Derived.Laws.RangeAny
namespace Go.Proofs.YtgdlfcgboghadaaFmt
open Go Go.RowKit Go.Shelf Go.Lib

theorem hv_v (c : UInt8) : hv c.toNat = some (Hx.v c) ∨ (hv c.toNat = none ∧ 15 < Hx.v c) := by
  have key : ∀ n : Fin 256, hv n.val = some (Hx.v (UInt8.ofNat n.val)) ∨ (hv n.val = none ∧ 15 < Hx.v (UInt8.ofNat n.val)) := by decide +kernel
  have := key ⟨c.toNat, c.toNat_lt⟩
  simpa using this
theorem v_of {c : UInt8} {x : Nat} (h : hv c.toNat = some x) : Hx.v c = x ∧ x < 16 := by
  rcases hv_v c with e | e
  · rw [e] at h
    exact ⟨Option.some.inj h, hv_lt (e.trans h)⟩
  · rw [e.1] at h
    cases h
theorem v_no {c : UInt8} (h : hv c.toNat = none) : 15 < Hx.v c := by
  rcases hv_v c with e | e
  · rw [e] at h
    cases h
  · exact e.2

theorem dec4_ok {a b c d : UInt8} {x y z u : Nat} (ha : hv a.toNat = some x) (hb : hv b.toNat = some y) (hc : hv c.toNat = some z) (hd : hv d.toNat = some u) :
    Hx.decode [a, b, c, d] = ([UInt8.ofNat (x * 16 + y), UInt8.ofNat (z * 16 + u)], .ok) := by
  obtain ⟨a1, a2⟩ := v_of ha
  obtain ⟨b1, b2⟩ := v_of hb
  obtain ⟨c1, c2⟩ := v_of hc
  obtain ⟨d1, d2⟩ := v_of hd
  rw [Hx.decode_two, if_neg (by omega), if_neg (by omega), Hx.decode_two, if_neg (by omega), if_neg (by omega), Hx.decode_nil, a1, b1, c1, d1]
theorem dec4_bad {a b c d : UInt8} (h : hv a.toNat = none ∨ hv b.toNat = none ∨ hv c.toNat = none ∨ hv d.toNat = none) : ∃ e, (Hx.decode [a, b, c, d]).2 = .bad e := by
  rw [Hx.decode_two]
  by_cases h1 : 15 < Hx.v a
  · rw [if_pos h1]
    exact ⟨_, rfl⟩
  rw [if_neg h1]
  by_cases h2 : 15 < Hx.v b
  · rw [if_pos h2]
    exact ⟨_, rfl⟩
  rw [if_neg h2, Hx.decode_two]
  by_cases h3 : 15 < Hx.v c
  · rw [if_pos h3]
    exact ⟨_, rfl⟩
  rw [if_neg h3]
  by_cases h4 : 15 < Hx.v d
  · rw [if_pos h4]
    exact ⟨_, rfl⟩
  exfalso
  rcases h with h | h | h | h
  · exact h1 (v_no h)
  · exact h2 (v_no h)
  · exact h3 (v_no h)
  · exact h4 (v_no h)

theorem ext4 (s : ByteArray) (i : Nat) (h : i + 4 ≤ s.size) : (s.extract i (i + 4)).data.toList = [s[i]'(by omega), s[i + 1]'(by omega), s[i + 2]'(by omega), s[i + 3]'(by omega)] := by
  have hl : s.data.toList.length = s.size := rfl
  rw [ByteArray.data_extract, Array.toList_extract]
  apply List.ext_getElem?
  intro k
  have g : ∀ j (hj : j < s.size), s.data.toList[j]? = some (s[j]'hj) := fun j hj => by
    rw [List.getElem?_eq_getElem (show j < s.data.toList.length from hj)]
    rfl
  rcases k with _ | _ | _ | _ | k
  · simp [List.getElem?_take, List.getElem?_drop, g i (by omega)]
  · simp [List.getElem?_take, List.getElem?_drop, g (i + 1) (by omega)]
  · simp [List.getElem?_take, List.getElem?_drop, g (i + 2) (by omega)]
  · simp [List.getElem?_take, List.getElem?_drop, g (i + 3) (by omega)]
  · simp [List.getElem?_take]
    omega

/-- What hex.DecodeString says of the four bytes at place i. -/
def H4Post (s : ByteArray) (i : Nat) (w : World) (e : Ending) (w' : World) : Prop :=
  ((∃ x y bk cap : Nat, h4 s i = some (x * 256 + y) ∧ x < 256 ∧ y < 256 ∧ e = .returned (.tuple #[.slice (some ⟨bk, 0, none⟩) 2 cap, .nilIface]) ∧ w'.cell? ⟨bk, 0, none⟩ = some (.int .u8 x) ∧ w'.cell? ⟨bk, 1, none⟩ = some (.int .u8 y) ∧ bk < w'.heap.size) ∨
   (h4 s i = none ∧ ∃ v c, e = .returned (.tuple #[v, .iface 145 c]))) ∧ Below w.heap.size w w'
theorem hexAt (s : ByteArray) (i : Nat) (h : i + 4 ≤ s.size) (ev : Value) (w : World) (hE : w.cell? ⟨5, 0, none⟩ = some ev) :
    Calls Tryf.prog 52 #[.string (s.extract i (i + 4))] w (H4Post s i w) := by
  have hz : (s.extract i (i + 4)).size = 4 := by rw [ByteArray.size_extract]; omega
  refine (Tryf.hex_DecodeString (s.extract i (i + 4)) w ev hE (by omega)).mono ?_
  rintro e w' ⟨rfl, hrow, hb⟩
  rw [ext4 s i h] at hrow ⊢
  refine ⟨?_, hb⟩
  unfold h4
  rw [byteAt_get s i (by omega), byteAt_get s (i + 1) (by omega), byteAt_get s (i + 2) (by omega), byteAt_get s (i + 3) (by omega)]
  cases ha : hv (s[i]'(by omega)).toNat with
  | none =>
    obtain ⟨c, hc⟩ := dec4_bad (a := s[i]'(by omega)) (b := s[i + 1]'(by omega)) (c := s[i + 2]'(by omega)) (d := s[i + 3]'(by omega)) (.inl ha)
    exact .inr ⟨rfl, _, _, by rw [hc]; rfl⟩
  | some x =>
  cases hb' : hv (s[i + 1]'(by omega)).toNat with
  | none =>
    obtain ⟨c, hc⟩ := dec4_bad (a := s[i]'(by omega)) (b := s[i + 1]'(by omega)) (c := s[i + 2]'(by omega)) (d := s[i + 3]'(by omega)) (.inr (.inl hb'))
    exact .inr ⟨rfl, _, _, by rw [hc]; rfl⟩
  | some y =>
  cases hc' : hv (s[i + 2]'(by omega)).toNat with
  | none =>
    obtain ⟨c, hc⟩ := dec4_bad (a := s[i]'(by omega)) (b := s[i + 1]'(by omega)) (c := s[i + 2]'(by omega)) (d := s[i + 3]'(by omega)) (.inr (.inr (.inl hc')))
    exact .inr ⟨rfl, _, _, by rw [hc]; rfl⟩
  | some z =>
  cases hd : hv (s[i + 3]'(by omega)).toNat with
  | none =>
    obtain ⟨c, hc⟩ := dec4_bad (a := s[i]'(by omega)) (b := s[i + 1]'(by omega)) (c := s[i + 2]'(by omega)) (d := s[i + 3]'(by omega)) (.inr (.inr (.inr hd)))
    exact .inr ⟨rfl, _, _, by rw [hc]; rfl⟩
  | some u =>
    have hx := hv_lt ha
    have hy := hv_lt hb'
    have hz' := hv_lt hc'
    have hu := hv_lt hd
    rw [dec4_ok ha hb' hc' hd] at hrow ⊢
    have r0 := hrow.cell (i := 0) (by omega)
    have r1 := hrow.cell (i := 1) (by omega)
    refine .inl ⟨x * 16 + y, z * 16 + u, w.heap.size, (s.extract i (i + 4)).size / 2, ?_, by omega, by omega, rfl, ?_, ?_, ?_⟩
    · show some _ = some _
      congr 1
      omega
    · rw [r0]
      have e1 : (UInt8.ofNat (x * 16 + y)).toNat = x * 16 + y := by simp; omega
      simp [Hx.rowP]
      omega
    · rw [r1]
      simp [Hx.rowP]
      omega
    · exact hrow.lt

end Go.Proofs.YtgdlfcgboghadaaFmt
