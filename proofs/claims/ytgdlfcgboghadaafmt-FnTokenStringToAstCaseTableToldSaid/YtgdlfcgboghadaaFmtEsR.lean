/-
  utf16: a surrogate is told; two halves make some rune.
-/
import Derived.Test.YtgdlfcgboghadaaFmtEsP
import Derived.IntWalk
import Derived.Laws.Strings
namespace Go.Proofs.YtgdlfcgboghadaaFmt
open Go Go.RowKit Go.Shelf

theorem ext2 (s : ByteArray) (i : Nat) (h : i + 2 ≤ s.size) : (s.extract i (i + 2)).data.toList = [s[i]'(by omega), s[i + 1]'(by omega)] := by
  rw [ByteArray.data_extract, Array.toList_extract]
  apply List.ext_getElem?
  intro k
  have g : ∀ j (hj : j < s.size), s.data.toList[j]? = some (s[j]'hj) := fun j hj => by
    rw [List.getElem?_eq_getElem (show j < s.data.toList.length from hj)]
    rfl
  rcases k with _ | _ | k
  · simp [List.getElem?_take, List.getElem?_drop, g i (by omega)]
  · simp [List.getElem?_take, List.getElem?_drop, g (i + 1) (by omega)]
  · simp [List.getElem?_take]
    omega
theorem ext2_eq (s : ByteArray) (i : Nat) (h : i + 2 ≤ s.size) : ((s.extract i (i + 2)).toList == [92, 117]) = decide (byteAt s i = 92 ∧ byteAt s (i + 1) = 117) := by
  rw [ByteArray.toList_eq, ext2 s i h, byteAt_get s i (by omega), byteAt_get s (i + 1) (by omega), Bool.eq_iff_iff]
  simp [← UInt8.toNat_inj]

theorem isSurr (r : Int) (w : World) : Calls Tryf.prog 53 #[.int .i32 r] w fun e w' => e = .returned (.bool (decide (55296 ≤ r ∧ r < 57344))) ∧ w = w' := by
  by_cases h1 : 55296 ≤ r
  · by_cases h2 : r < 57344
    · have e3 : decide (55296 ≤ r ∧ r < 57344) = true := decide_eq_true ⟨h1, h2⟩
      rw [e3]
      clear e3
      go_enter Tryf.func53, Tryf.ntmps53
      go_wp2
      go_ret
      exact ⟨rfl, rfl⟩
    · have e3 : decide (55296 ≤ r ∧ r < 57344) = false := decide_eq_false (fun e => h2 e.2)
      have b2 : decide (r < 57344) = false := decide_eq_false h2
      rw [e3]
      clear e3 h2
      go_enter Tryf.func53, Tryf.ntmps53
      go_wp2
      go_ret
      exact ⟨rfl, rfl⟩
  · have e3 : decide (55296 ≤ r ∧ r < 57344) = false := decide_eq_false (fun e => h1 e.1)
    have b2 : decide (55296 ≤ r) = false := decide_eq_false h1
    rw [e3]
    clear e3 h1
    go_enter Tryf.func53, Tryf.ntmps53
    go_wp2
    go_ret
    exact ⟨rfl, rfl⟩

def SomeRune (w : World) (e : Ending) (w' : World) : Prop := (∃ z : Int, e = .returned (.int .i32 z) ∧ -2147483648 ≤ z ∧ z ≤ 2147483647) ∧ w = w'
theorem decRune (x y : Int) (w : World) (hx : 55296 ≤ x) (hx2 : x < 57344) (hy : 0 ≤ y) (hy2 : y < 65536) : Calls Tryf.prog 54 #[.int .i32 x, .int .i32 y] w (SomeRune w) := by
  by_cases h2 : x < 56320
  · by_cases h3 : 56320 ≤ y
    · by_cases h4 : y < 57344
      · go_enter Tryf.func54, Tryf.ntmps54
        go_wp2
        go_ret
        exact ⟨⟨_, rfl, by unfold wrap32; omega, by unfold wrap32; omega⟩, rfl⟩
      · have b2 : decide (y < 57344) = false := decide_eq_false h4
        clear h4
        go_enter Tryf.func54, Tryf.ntmps54
        go_wp2
        go_ret
        exact ⟨⟨_, rfl, by omega, by omega⟩, rfl⟩
    · have b2 : decide (56320 ≤ y) = false := decide_eq_false h3
      clear h3
      go_enter Tryf.func54, Tryf.ntmps54
      go_wp2
      go_ret
      exact ⟨⟨_, rfl, by omega, by omega⟩, rfl⟩
  · have b2 : decide (x < 56320) = false := decide_eq_false h2
    clear h2
    go_enter Tryf.func54, Tryf.ntmps54
    go_wp2
    go_ret
    exact ⟨⟨_, rfl, by omega, by omega⟩, rfl⟩

end Go.Proofs.YtgdlfcgboghadaaFmt
