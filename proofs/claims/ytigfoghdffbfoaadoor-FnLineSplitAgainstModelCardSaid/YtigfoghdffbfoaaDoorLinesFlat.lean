/-
  Of well-formed UTF-8 the lines laid end to end are the text and a newline. No program is named here.
-/
import Derived.Test.YtigfoghdffbfoaaDoorLinesLaw
import Derived.Test.YtigfoghdffbfoaaDoorValid
namespace Go.Proofs.YtigfoghdffbfoaaDoor
open Go

theorem lines_flat {s : ByteArray} (hv : ValidU s) : ∀ (f n : Nat) (cur : List UInt8), s.size ≤ bpos s n + f → (linesFrom s f (bpos s n) cur).flatten = cur ++ (s.data.toList.drop (bpos s n) ++ [10]) := by
  have hsz : s.data.toList.length = s.size := by rw [Array.length_toList]; rfl
  intro f
  induction f with
  | zero =>
    intro n cur h
    rw [linesFrom, List.drop_of_length_le (by omega)]
    simp
  | succ f ih =>
    intro n cur h
    by_cases hp : bpos s n < s.size
    · have hg := enc_good s _ hp (hv n hp)
      have w1 := Lib.decode_width_pos s (bpos s n) hp
      have hd : s.data.toList.drop (bpos s n) = Lib.encodeRune ((Utf8.decode s (bpos s n)).1 : Int) ++ s.data.toList.drop (bpos s (n + 1)) := by
        rw [hg, bpos_next hp, ← List.drop_drop]
        exact (List.take_append_drop _ _).symm
      have hi := ih (n + 1)
      rw [bpos_next hp] at hi
      rw [bpos_next hp] at hd
      by_cases hn : (Utf8.decode s (bpos s n)).1 = 10
      · rw [linesFrom_nl s f _ cur hp hn, List.flatten_cons, hi _ (by omega), hd]
        simp
      · rw [linesFrom_other s f _ cur hp hn, hi _ (by omega), hd]
        simp
    · rw [linesFrom_end s _ _ cur hp, List.drop_of_length_le (by omega)]
      simp

theorem srcLines_flat {s : ByteArray} (hv : ValidU s) : (srcLines s).flatten = s.data.toList ++ [10] := by
  have := lines_flat hv s.size 0 [] (by omega)
  exact this

/-- Where the k-th line begins. -/
def lstart (s : ByteArray) (k : Nat) : Nat := (((srcLines s).take k).flatten).length

theorem flat_at (ls : List (List UInt8)) (k j : Nat) (hk : k < ls.length) (hj : j < (ls[k]).length) : ls.flatten[((ls.take k).flatten).length + j]? = some ((ls[k])[j]) := by
  have h1 : ls.flatten = (ls.take k).flatten ++ ((ls.drop k).flatten) := by rw [← List.flatten_append, List.take_append_drop]
  rw [h1, List.getElem?_append_right (by omega), List.drop_eq_getElem_cons hk, List.flatten_cons, Nat.add_sub_cancel_left, List.getElem?_append_left hj, List.getElem?_eq_getElem hj]
theorem lstart_next (s : ByteArray) (k : Nat) (hk : k < (srcLines s).length) : lstart s (k + 1) = lstart s k + ((srcLines s)[k]).length := by
  unfold lstart
  rw [List.take_succ_eq_append_getElem hk, List.flatten_append, List.length_append]
  simp
theorem lstart_end {s : ByteArray} (hv : ValidU s) : lstart s (srcLines s).length = s.size + 1 := by
  unfold lstart
  rw [List.take_of_length_le (Nat.le_refl _), srcLines_flat hv, List.length_append, Array.length_toList]
  rfl

end Go.Proofs.YtigfoghdffbfoaaDoor
