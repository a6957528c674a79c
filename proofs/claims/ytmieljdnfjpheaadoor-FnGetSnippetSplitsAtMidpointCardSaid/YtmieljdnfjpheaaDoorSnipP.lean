/-
  Where the lines of a text begin, and how many newlines lie ahead of a place. Plain laws: no program is walked here.
-/
import Derived.Test.YtmieljdnfjpheaaDoorLinesFlat
namespace Go.Proofs.YtmieljdnfjpheaaDoor
open Go

theorem snocT_data (s : ByteArray) : (s ++ ⟨#[10]⟩ : ByteArray).data.toList = s.data.toList ++ [10] := by simp [ByteArray.data_append]
theorem snocT_size (s : ByteArray) : (s ++ ⟨#[10]⟩ : ByteArray).size = s.size + 1 := by rw [ByteArray.size_append]; rfl
theorem byte_list (T : ByteArray) (i : Nat) (b : UInt8) (hb : T.data.toList[i]? = some b) : i < T.size ∧ byteAt T i = b.toNat := by
  have h1 : i < T.data.toList.length := by
    rcases Nat.lt_or_ge i T.data.toList.length with h | h
    · exact h
    · rw [List.getElem?_eq_none h] at hb; cases hb
  have h : i < T.size := by rw [Array.length_toList] at h1; exact h1
  refine ⟨h, ?_⟩
  rw [← byte_of_get T i h]
  have h2 : T[i]'h = b := by
    rw [List.getElem?_eq_getElem h1] at hb
    exact Option.some.inj hb
  rw [h2]

/-- T is the lines of s, end to end. -/
structure TLines (s T : ByteArray) : Prop where
  flat : T.data.toList = (srcLines s).flatten
  size : T.size = s.size + 1
theorem tlines {s : ByteArray} (hv : ValidU s) {T : ByteArray} (hT : s ++ ⟨#[10]⟩ = T) : TLines s T := by
  subst hT
  exact ⟨by rw [snocT_data, srcLines_flat hv], snocT_size s⟩

/-- The k-th line's length, its newline with it. -/
def llen (s : ByteArray) (k : Nat) : Nat := ((srcLines s)[k]?.getD []).length
theorem llen_eq {s : ByteArray} {k : Nat} (hk : k < (srcLines s).length) : llen s k = ((srcLines s)[k]).length := by unfold llen; rw [List.getElem?_eq_getElem hk]; rfl
theorem llen_pos {s : ByteArray} {k : Nat} (hk : k < (srcLines s).length) : 1 ≤ llen s k := by
  obtain ⟨c, hc, _⟩ := srcLines_ok s _ (List.getElem_mem hk)
  rw [llen_eq hk, hc, List.length_append]
  simp
theorem lst_next {s : ByteArray} {k : Nat} (hk : k < (srcLines s).length) : lstart s (k + 1) = lstart s k + llen s k := by rw [lstart_next s k hk, llen_eq hk]
theorem lst_le {s T : ByteArray} (h : TLines s T) (k : Nat) : lstart s k ≤ T.size := by
  have e1 : (srcLines s).flatten.length = T.size := by rw [← h.flat, Array.length_toList]; rfl
  have e2 : (srcLines s).flatten = ((srcLines s).take k).flatten ++ ((srcLines s).drop k).flatten := by rw [← List.flatten_append, List.take_append_drop]
  rw [← e1, e2, List.length_append]
  unfold lstart
  omega
/-- The bytes of a line in the whole text. -/
theorem line_byte {s T : ByteArray} (h : TLines s T) {k j : Nat} (hk : k < (srcLines s).length) (hj : j < llen s k) : lstart s k + j < T.size ∧ byteAt T (lstart s k + j) = (((srcLines s)[k])[j]'(by rw [← llen_eq hk]; exact hj)).toNat := by
  rw [llen_eq hk] at hj
  have := flat_at (srcLines s) k j hk hj
  rw [← h.flat] at this
  exact byte_list T _ _ this
theorem line_last {s T : ByteArray} (h : TLines s T) {k j : Nat} (hk : k < (srcLines s).length) (hj : j < llen s k) : (byteAt T (lstart s k + j) = 10 ↔ j + 1 = llen s k) := by
  rw [(line_byte h hk hj).2]
  obtain ⟨c, hc, hno⟩ := srcLines_ok s _ (List.getElem_mem hk)
  have hl := llen_eq hk
  have hlc : llen s k = c.length + 1 := by rw [hl, hc, List.length_append]; rfl
  have hget : ((srcLines s)[k])[j]'(by rw [← hl]; exact hj) = (c ++ [10])[j]'(by rw [List.length_append]; simp; omega) := by
    congr 1
  rw [hget]
  by_cases hjc : j < c.length
  · rw [List.getElem_append_left hjc]
    have := hno _ (List.getElem_mem hjc)
    refine ⟨fun e => absurd (UInt8.toNat_inj.1 e) this, fun e => by omega⟩
  · obtain rfl : j = c.length := by omega
    rw [List.getElem_append_right (by omega)]
    simp
    omega
/-- Inside a line no newline lies ahead. -/
theorem nlc_line {s T : ByteArray} (h : TLines s T) {k : Nat} (hk : k < (srcLines s).length) : ∀ j, j + 1 ≤ llen s k → nlc T (lstart s k + j) = nlc T (lstart s k)
  | 0, _ => rfl
  | j + 1, hj => by
    have h1 : ¬ byteAt T (lstart s k + j) = 10 := fun e => by have := (line_last h hk (by omega)).1 e; omega
    rw [show lstart s k + (j + 1) = (lstart s k + j) + 1 by omega, nlc_no h1]
    exact nlc_line h hk j (by omega)
theorem nlc_lst {s T : ByteArray} (h : TLines s T) : ∀ k, k ≤ (srcLines s).length → nlc T (lstart s k) = k
  | 0, _ => rfl
  | k + 1, hk => by
    have hk' : k < (srcLines s).length := hk
    have hp := llen_pos hk'
    have e1 := nlc_line h hk' (llen s k - 1) (by omega)
    have e2 : byteAt T (lstart s k + (llen s k - 1)) = 10 := (line_last h hk' (by omega)).2 (by omega)
    rw [lst_next hk', show lstart s k + llen s k = (lstart s k + (llen s k - 1)) + 1 by omega, nlc_nl e2, e1, nlc_lst h k (by omega)]
theorem nlc_mono (T : ByteArray) (a : Nat) : ∀ d, nlc T a ≤ nlc T (a + d)
  | 0 => Nat.le_refl _
  | d + 1 => by
    have := nlc_mono T a d
    rw [show a + (d + 1) = (a + d) + 1 by omega]
    show _ ≤ nlc T (a + d) + _
    omega
/-- Ahead of a line's start fewer newlines lie. -/
theorem nlc_before {s T : ByteArray} (h : TLines s T) {k p : Nat} (hk : k + 1 ≤ (srcLines s).length) (hp : p < lstart s (k + 1)) : nlc T p ≤ k := by
  have hpos := llen_pos (show k < (srcLines s).length by omega)
  rw [lst_next (by omega)] at hp
  have e1 := nlc_line h (show k < (srcLines s).length by omega) (llen s k - 1) (by omega)
  rw [nlc_lst h k (by omega)] at e1
  have := nlc_mono T p (lstart s k + (llen s k - 1) - p)
  rw [show p + (lstart s k + (llen s k - 1) - p) = lstart s k + (llen s k - 1) by omega, e1] at this
  exact this
theorem nl_ahead {s T : ByteArray} (h : TLines s T) {k : Nat} (hk : k + 1 ≤ (srcLines s).length) : 1 ≤ lstart s (k + 1) ∧ byteAt T (lstart s (k + 1) - 1) = 10 := by
  have hk' : k < (srcLines s).length := hk
  have hp := llen_pos hk'
  have e2 : byteAt T (lstart s k + (llen s k - 1)) = 10 := (line_last h hk' (by omega)).2 (by omega)
  rw [lst_next hk']
  refine ⟨by omega, ?_⟩
  rw [show lstart s k + llen s k - 1 = lstart s k + (llen s k - 1) by omega]
  exact e2
theorem nlc_all {s T : ByteArray} (h : TLines s T) (hv : ValidU s) : nlc T T.size = (srcLines s).length := by
  have := nlc_lst h (srcLines s).length (Nat.le_refl _)
  rw [lstart_end hv, ← h.size] at this
  exact this
theorem lst_mono {s : ByteArray} (a : Nat) : ∀ d, a + d ≤ (srcLines s).length → lstart s a ≤ lstart s (a + d)
  | 0, _ => Nat.le_refl _
  | d + 1, h => by
    have := lst_mono (s := s) a d (by omega)
    rw [show a + (d + 1) = (a + d) + 1 by omega, lst_next (by omega)]
    omega

/-- The bytes from a up to b. -/
def seg (T : ByteArray) (a b : Nat) : List UInt8 := (T.data.toList.take b).drop a
theorem seg_none (T : ByteArray) {a b : Nat} (h : b ≤ a) : seg T a b = [] := by
  unfold seg
  apply List.drop_of_length_le
  rw [List.length_take]
  omega
theorem seg_snoc (T : ByteArray) {a b : Nat} (h : a ≤ b) (hb : b < T.size) : seg T a (b + 1) = seg T a b ++ [T[b]'hb] := by
  unfold seg
  have hl : b < T.data.toList.length := by rw [Array.length_toList]; exact hb
  rw [List.take_succ_eq_append_getElem hl, List.drop_append_of_le_length (by rw [List.length_take]; omega)]
  rfl
theorem seg_length (T : ByteArray) (a b : Nat) : (seg T a b).length ≤ T.size := by
  unfold seg
  rw [List.length_drop, List.length_take, Array.length_toList]
  have : T.data.size = T.size := rfl
  omega
theorem seg_extract (T : ByteArray) (a b : Nat) : (⟨(seg T a b).toArray⟩ : ByteArray) = T.extract a b := by
  apply ByteArray.ext
  rw [ByteArray.data_extract]
  apply Array.toList_inj.1
  unfold seg
  simp [List.extract_eq_take_drop, List.drop_take]
theorem seg_join (T : ByteArray) {a b c : Nat} (h1 : a ≤ b) (h2 : b ≤ c) : seg T a b ++ seg T b c = seg T a c := by
  unfold seg
  have e : (T.data.toList.take c).drop a = ((T.data.toList.take c).drop a).take (b - a) ++ ((T.data.toList.take c).drop a).drop (b - a) := (List.take_append_drop _ _).symm
  rw [e, List.drop_drop, show a + (b - a) = b by omega]
  congr 1
  rw [← List.drop_take, List.take_take, Nat.min_eq_left h2]

end Go.Proofs.YtmieljdnfjpheaaDoor
