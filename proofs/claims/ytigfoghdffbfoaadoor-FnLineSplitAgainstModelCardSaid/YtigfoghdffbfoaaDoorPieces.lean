/-
  Plain laws of a text's pieces: no newline among them. No program is named here.
-/
import Derived.Test.YtigfoghdffbfoaaDoorRunesB
import Derived.Test.YtigfoghdffbfoaaDoorSplit
namespace Go.Proofs.YtigfoghdffbfoaaDoor
open Go

theorem stripOf_no {mg : Int} {l : List UInt8} {o : ByteArray} (h : StripOf mg l o) (hl : ∃ c : List UInt8, l = c ++ [10] ∧ ∀ b ∈ c, b ≠ 10) : ∀ (j : Nat) (hj : j < o.size), (o[j]'hj).toNat ≠ 10 := by
  obtain ⟨c, rfl, i, k, hst, rfl⟩ := h
  obtain ⟨c', hc, hno⟩ := hl
  obtain rfl : c = c' := List.append_cancel_right hc
  intro j hj h10
  have hm : (runesBytes (((runesOf ⟨c.toArray⟩).drop i).take (k - i)))[j]'hj ∈ (runesBytes (((runesOf ⟨c.toArray⟩).drop i).take (k - i))).data.toList := by
    rw [Array.mem_toList_iff]; exact Array.getElem_mem _
  rw [runesBytes_list, List.mem_flatMap] at hm
  obtain ⟨z, hz, hb⟩ := hm
  have hz2 : z ∈ runesOf ⟨c.toArray⟩ := List.mem_of_mem_drop (List.mem_of_mem_take hz)
  refine runes_no ⟨c.toArray⟩ ?_ _ _ z hz2 _ hb (UInt8.toNat_inj.1 h10)
  intro p hp e
  have hp' : p < c.length := by simpa [ByteArray.size] using hp
  rw [list_byteAt c p hp'] at e
  exact hno _ (List.getElem_mem hp') (UInt8.toNat_inj.1 e)

theorem stripOf_le {mg : Int} {l : List UInt8} {o : ByteArray} (h : StripOf mg l o) : o.size ≤ 4 * l.length := by
  obtain ⟨c, rfl, i, k, hst, rfl⟩ := h
  have h1 := runesBytes_size_le (((runesOf ⟨c.toArray⟩).drop i).take (k - i))
  have h2 : (runesOf ⟨c.toArray⟩).length ≤ c.length := by
    exact runesFrom_len ⟨c.toArray⟩ c.length 0
  rw [List.length_take, List.length_drop] at h1
  rw [List.length_append]
  omega

/-- The k-th of pairs that go side by side. -/
theorem Pw.at {mg : Int} {as1 : List (List UInt8)} {bs1 : List ByteArray} (h : Pw mg as1 bs1) : ∀ (k : Nat) (hk : k < as1.length), ∃ o, bs1[k]? = some o ∧ StripOf mg (as1[k]) o := by
  induction h with
  | nil => intro k hk; simp at hk
  | @snoc as2 bs2 a b h1 h2 ih =>
    intro k hk
    have hl := h1.len
    by_cases hk2 : k < as2.length
    · obtain ⟨o, ho, hs⟩ := ih k hk2
      refine ⟨o, ?_, ?_⟩
      · rw [List.getElem?_append_left (by omega)]; exact ho
      · rw [List.getElem_append_left hk2]; exact hs
    · obtain rfl : k = as2.length := by simp at hk; omega
      refine ⟨b, ?_, ?_⟩
      · rw [hl]; simp
      · simp; exact h2

end Go.Proofs.YtigfoghdffbfoaaDoor
