/-
  The walk of FnBuildSourceLineCountEveryString.
-/
import Derived.Test.YtmieljdnfjpheaaDoorLinesLaw
import Derived.Test.YtmieljdnfjpheaaDoorBuildSource
import Derived.Deep.AppendLies
import Derived.Laws.OwnMore
import Derived.IntWalk
import Derived.Deep.RegionHeld3
namespace Go.Proofs.YtmieljdnfjpheaaDoor.fnBuildSourceLineCountEveryString
open Go Go.RowKit Go.Shelf

theorem countNL (s : ByteArray) (hs : s.size ≤ 1099511627775) (w : World) :
    Calls Tryd.prog 13 #[.string s] w fun e w' => e = .returned (.int .i64 (nlc s s.size : Int)) ∧ w = w' := by
  go_enter Tryd.func13, Tryd.ntmps13
  go_wp2
  go_loop [3, 4] (fun n i => ∃ k : Nat, k ≤ s.size ∧ i = .int .i64 k ∧ n = .int .i64 (nlc s k : Int)) (fun _ i => s.size - (intOf i).toNat)
  case atStart => exact ⟨0, Nat.zero_le _, rfl, rfl⟩
  case round =>
    obtain ⟨k, hk, rfl, rfl⟩ := hrel
    have h1 := nlc_le s k
    by_cases hks : k < s.size
    · have hbyte := byte_of_get s k hks
      by_cases h10 : byteAt s k = 10
      · have e1 := Lib.hid (nlc_nl h10)
        have hB : (((s[k]'hks).toNat : Int) == 10) = true := beq_iff_eq.2 (by omega)
        clear h10 hbyte
        go_wp2
        go_round
        case rel => exact ⟨k + 1, by omega, by go_num, by rw [e1.out]; go_num⟩
        case measure => simp [intOf]; omega
      · have e1 := Lib.hid (nlc_no h10)
        have hB : (((s[k]'hks).toNat : Int) == 10) = false := beq_eq_false_iff_ne.2 (by omega)
        clear h10 hbyte
        go_wp2
        go_round
        case rel => exact ⟨k + 1, by omega, by go_num, by rw [e1.out]⟩
        case measure => simp [intOf]; omega
    · obtain rfl : k = s.size := by omega
      go_wp2
      go_ret
      exact ⟨rfl, rfl⟩

theorem bytes_ok (d s : ByteArray) (w : World) (h1 : d.size + s.size ≤ 1048576) :
    Calls Tryd.prog 18 #[.string d, .string s] w fun e w' => e = .returned (.bool true) ∧ w = w' := by
  have q1 : decide (1048576 < d.size) = false := decide_eq_false (by omega)
  have q2 : decide (1048576 < s.size) = false := decide_eq_false (by omega)
  have q3 : decide (1048576 < d.size + s.size) = false := decide_eq_false (by omega)
  go_enter Tryd.func18, Tryd.ntmps18
  go_wp2
  all_goals go_ret
  all_goals exact ⟨rfl, rfl⟩
theorem bytes_no (d s : ByteArray) (w : World) (hd : d.size ≤ maxLen) (hs : s.size ≤ maxLen) (h1 : 1048576 < d.size + s.size) :
    Calls Tryd.prog 18 #[.string d, .string s] w fun e w' => e = .returned (.bool false) ∧ w = w' := by
  unfold maxLen at hs hd
  by_cases q1 : 1048576 < d.size
  · go_enter Tryd.func18, Tryd.ntmps18
    go_wp2
    all_goals go_ret
    all_goals exact ⟨rfl, rfl⟩
  by_cases q2 : 1048576 < s.size
  · go_enter Tryd.func18, Tryd.ntmps18
    go_wp2
    all_goals go_ret
    all_goals exact ⟨rfl, rfl⟩
  · go_enter Tryd.func18, Tryd.ntmps18
    go_wp2
    all_goals go_ret
    all_goals exact ⟨rfl, rfl⟩

/-- The k-th line, as a string value. -/
theorem line_at (s : ByteArray) (k : Nat) (hk : k < (srcLines s).length) : ∃ (t : ByteArray) (m : Nat), ((srcLines s).map strV)[k]? = some (.string t) ∧ t.size = m + 1 ∧ t.size ≤ 4 * s.size + 1 ∧ (∀ h : m < t.size, (t[m]'h).toNat = 10) ∧ ∀ (j : Nat) (h : j < t.size), j < m → (t[j]'h).toNat ≠ 10 := by
  have hmem := List.getElem_mem hk
  obtain ⟨c, hc, hno⟩ := srcLines_ok s _ hmem
  have hle := srcLines_le s _ hmem
  rw [hc] at hle
  refine ⟨⟨(c ++ [10]).toArray⟩, c.length, ?_, ?_, ?_, ?_, ?_⟩
  · rw [List.getElem?_map, List.getElem?_eq_getElem hk, Option.map_some, hc]
    rfl
  · show (c ++ [10]).toArray.size = _
    rw [List.size_toArray, List.length_append]
    rfl
  · show (c ++ [10]).toArray.size ≤ _
    rw [List.size_toArray]
    exact hle
  · intro h
    have e1 : (c ++ [(10 : UInt8)])[c.length]'(by simp) = 10 := List.getElem_concat_length rfl _
    exact congrArg UInt8.toNat e1
  · intro j h hj e
    have hj2 : j < (c ++ [(10 : UInt8)]).length := by rw [List.length_append]; omega
    have e1 : ((c ++ [(10 : UInt8)])[j]'hj2).toNat = 10 := e
    rw [List.getElem_append_left hj] at e1
    exact hno _ (List.getElem_mem hj) (UInt8.toNat_inj.1 e1)

set_option maxHeartbeats 3200000 in
set_option maxRecDepth 100000 in
theorem walk (d s : ByteArray) (w : World) (hd : d.size ≤ maxLen) (hs : s.size ≤ maxLen) :
    Calls Tryd.prog 5 #[.string d, .string s] w fun e w' => e = .returned (.bool true) ∧ Below w.heap.size w w' := by
  by_cases hz : 1048576 < d.size + s.size
  · go_enter Tryd.func5, Tryd.ntmps5
    go_wp2_with (go_at_call 18; refine (bytes_no d s _ hd hs hz).mono ?_; rintro e w' ⟨rfl, rfl⟩)
    go_ret
    exact ⟨rfl, Below.refl _ _⟩
  have hz' : d.size + s.size ≤ 1048576 := by omega
  have hlen := srcLines_len s
  have hok := Lib.hid (srcLines_ok s)
  have hle := Lib.hid (srcLines_le s)
  have hnl := nlc_le s s.size
  clear hz hd hs
  go_enter Tryd.func5, Tryd.ntmps5
  go_wp2_with fail
  refine (bytes_ok d s _ hz').mono ?_
  rintro e w' ⟨rfl, rfl⟩
  go_wp2_with fail
  refine (buildSource d s (by omega) _).mono ?_
  rintro e w1 ⟨N, v, rfl, hN, hNb, hown, hb⟩
  obtain ⟨g, cap, rfl, hg1, hg2⟩ := hown.form (by omega)
  have c0 : w1.cell? ⟨N, 0, none⟩ = some (.string d) := (cell_of_row w1 N 0 _ _ _ hNb).trans rfl
  have c1 : w1.cell? ⟨N, 1, none⟩ = some (.slice (some ⟨g, 0, none⟩) (srcLines s).length cap) := (cell_of_row w1 N 1 _ _ _ hNb).trans rfl
  have HO := Lib.hid hown
  clear hown hNb
  rw [hlen] at c1
  have hsz : s.size ≤ 1099511627775 := by omega
  have hw : IntKind.i64.wrap ((nlc s s.size : Int) + 1) = (nlc s s.size : Int) + 1 := Go.IntWalk.i64_in _ ⟨by omega, by omega⟩
  go_wp2_with fail
  go_region_held3 (fun w => w.cell? ⟨N, 1, none⟩ = some (.slice (some ⟨g, 0, none⟩) (nlc s s.size + 1) cap)) (first | exact c1) (first | (go_at_call 13; refine (countNL s hsz _).mono ?_; rintro e w2 ⟨rfl, rfl⟩))
  go_wp2
  go_loop [6] (fun i => ∃ k : Nat, k ≤ nlc s s.size + 1 ∧ i = .int .i64 k) (fun i => nlc s s.size + 1 - (intOf i).toNat)
  case atStart => exact ⟨0, Nat.zero_le _, rfl⟩
  case round =>
    obtain ⟨k, hk, rfl⟩ := hrel
    by_cases hlt : k < nlc s s.size + 1
    · obtain ⟨t, m, ht, hm, hmax, hlast, hno⟩ := line_at s k (by omega)
      have ck : w1.cell? ⟨g, k, none⟩ = some (.string t) := (HO.out.cellAt k (by omega)).trans ht
      have hmt : m < t.size := by omega
      have hB : (((t[m]'hmt).toNat : Int) != 10) = false := by simp [hlast hmt]
      have hB0 : ((m : Int) + 1 == 0) = false := beq_eq_false_iff_ne.2 (by omega)
      have HNO := Lib.hid hno
      clear ht hlast hno
      go_wp2
      go_loop [8] (fun j => ∃ q : Nat, q ≤ m ∧ j = .int .i64 q) (fun j => m - (intOf j).toNat)
      case atStart => exact ⟨0, Nat.zero_le _, rfl⟩
      case round =>
        obtain ⟨q, hq, rfl⟩ := hrel
        by_cases hqm : q < m
        · have hqt : q < t.size := by omega
          have hB2 : (((t[q]'hqt).toNat : Int) == 10) = false := beq_eq_false_iff_ne.2 (by have := HNO.out q hqt hqm; omega)
          go_wp2
          go_round
          case rel => exact ⟨q + 1, by omega, by go_num⟩
          case measure => simp [intOf]; omega
        · obtain rfl : q = m := by omega
          go_wp2
          go_round
          case rel => exact ⟨k + 1, by omega, by go_num⟩
          case measure => simp [intOf]; omega
    · obtain rfl : k = nlc s s.size + 1 := by omega
      go_wp2
      go_ret
      exact ⟨rfl, drewN_below hb 1⟩

end Go.Proofs.YtmieljdnfjpheaaDoor.fnBuildSourceLineCountEveryString
