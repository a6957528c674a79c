/-
  The walk of FnLineSplitCountAnyBytes.
-/
import Derived.Test.YtigfoghdffbfoaaDoorPieces
import Derived.Laws.OwnMore
import Derived.Deep.AppendLies
import Derived.IntWalk
namespace Go.Proofs.YtigfoghdffbfoaaDoor
open Go Go.RowKit Go.Shelf

theorem zzSplit (s : ByteArray) (mg : Int) (hs : s.size ≤ 1048576) (w : World) :
    Calls Tryd.prog 6 #[.string s, .int .i64 mg] w fun e w' => ∃ (v : Value) (os : List ByteArray), e = .returned v ∧ Pw mg (srcLines s) os ∧ w'.ownsRow w.heap.size 9 1 v os.length (os.map Value.string) ∧ Below w.heap.size w w' := by
  go_enter Tryd.func6, Tryd.ntmps6
  go_wp2_with fail
  refine (lineSplit s mg hs _).mono ?_
  rintro e w1 ⟨v, os, rfl, hp, ho, hb⟩
  have HP := Lib.hid hp
  have HO := Lib.hid ho
  clear hp ho
  go_wp2
  go_ret
  exact ⟨v, os, rfl, HP.out, HO.out, hb⟩

end Go.Proofs.YtigfoghdffbfoaaDoor
namespace Go.Proofs.YtigfoghdffbfoaaDoor.fnLineSplitCountAnyBytes
open Go Go.RowKit Go.Shelf

theorem bytes_ok (s : ByteArray) (mg : Int) (w : World) (h1 : s.size ≤ 1048576) :
    Calls Tryd.prog 5 #[.string s, .int .i64 mg] w fun e w' => e = .returned (.bool true) ∧ w = w' := by
  have q2 : decide (1048576 < s.size) = false := decide_eq_false (by omega)
  go_enter Tryd.func5, Tryd.ntmps5
  go_wp2
  all_goals go_ret
  all_goals exact ⟨rfl, rfl⟩
theorem bytes_no (s : ByteArray) (mg : Int) (w : World) (hs : s.size ≤ maxLen) (h1 : 1048576 < s.size) :
    Calls Tryd.prog 5 #[.string s, .int .i64 mg] w fun e w' => e = .returned (.bool false) ∧ w = w' := by
  unfold maxLen at hs
  go_enter Tryd.func5, Tryd.ntmps5
  go_wp2
  all_goals go_ret
  all_goals exact ⟨rfl, rfl⟩

set_option maxHeartbeats 3200000 in
set_option maxRecDepth 100000 in
theorem walk (s : ByteArray) (mg : Int) (w : World) (hs : s.size ≤ maxLen) (_ : (Lit.int .i64 mg).wf = true) :
    Calls Tryd.prog 3 #[.string s, .int .i64 mg] w fun e w' => e = .returned (.bool true) ∧ Below w.heap.size w w' := by
  by_cases hz : 1048576 < s.size
  · go_enter Tryd.func3, Tryd.ntmps3
    go_wp2_with (go_at_call 5; refine (bytes_no s mg _ hs hz).mono ?_; rintro e w' ⟨rfl, rfl⟩)
    go_ret
    exact ⟨rfl, Below.refl _ _⟩
  have hz' : s.size ≤ 1048576 := by omega
  have hlen := srcLines_len s
  have hnl := nlc_le s s.size
  have HSL := Lib.hid hlen
  clear hz hs hlen
  go_enter Tryd.func3, Tryd.ntmps3
  go_wp2_with fail
  refine (bytes_ok s mg _ hz').mono ?_
  rintro e w' ⟨rfl, rfl⟩
  go_wp2_with fail
  refine (zzSplit s mg hz' _).mono ?_
  rintro e w1 ⟨v, os, rfl, hp, hown, hb⟩
  have hln : os.length = nlc s s.size + 1 := by rw [← hp.len, HSL.out]
  have hown2 : w1.ownsRow w.heap.size 9 1 v (nlc s s.size + 1) (os.map Value.string) := hln ▸ hown
  obtain ⟨g, cap, rfl, hg1, hg2⟩ := World.ownsRow.form hown2 (by omega)
  have HP := Lib.hid hp
  have HO : Hid (w1.ownsRow w.heap.size 9 1 (.slice (some ⟨g, 0, none⟩) (nlc s s.size + 1) cap) (nlc s s.size + 1) (os.map Value.string)) := Lib.hid hown2
  clear hown2
  have HB := Lib.hid hb
  have HL := Lib.hid hln
  clear hp hown hb hln
  go_wp2
  go_loop [6, 7] (fun c i => ∃ k : Nat, k ≤ s.size ∧ i = .int .i64 k ∧ c = .int .i64 (nlc s k + 1 : Int)) (fun _ i => s.size - (intOf i).toNat)
  case atStart => exact ⟨0, Nat.zero_le _, rfl, rfl⟩
  case round =>
    obtain ⟨k, hk, rfl, rfl⟩ := hrel
    have h1 := nlc_le s k
    by_cases hks : k < s.size
    · have hbyte := byte_of_get s k hks
      by_cases h10 : byteAt s k = 10
      · have e1 := Lib.hid (nlc_nl h10)
        have hB : (((s[k]'hks).toNat : Int) == 10) = true := beq_iff_eq.2 (by omega)
        clear h10 hbyte
        go_wp2
        go_round
        case rel => exact ⟨k + 1, by omega, by go_num, by rw [e1.out]; go_num⟩
        case measure => simp [intOf]; omega
      · have e1 := Lib.hid (nlc_no h10)
        have hB : (((s[k]'hks).toNat : Int) == 10) = false := beq_eq_false_iff_ne.2 (by omega)
        clear h10 hbyte
        go_wp2
        go_round
        case rel => exact ⟨k + 1, by omega, by go_num, by rw [e1.out]⟩
        case measure => simp [intOf]; omega
    · obtain rfl : k = s.size := by omega
      go_wp2
      go_loop [8] (fun i => ∃ k : Nat, k ≤ nlc s s.size + 1 ∧ i = .int .i64 k) (fun i => nlc s s.size + 1 - (intOf i).toNat)
      case atStart => exact ⟨0, Nat.zero_le _, rfl⟩
      case round =>
        obtain ⟨k, hk, rfl⟩ := hrel
        by_cases hlt : k < nlc s s.size + 1
        · obtain ⟨t, ht, hst⟩ := HP.out.at k (by rw [HSL.out]; exact hlt)
          have ck : w1.cell? ⟨g, k, none⟩ = some (.string t) := (World.ownsRow.cellAt HO.out k (by omega)).trans (by rw [List.getElem?_map, ht]; rfl)
          have hmem := List.getElem_mem (l := srcLines s) (n := k) (by rw [HSL.out]; exact hlt)
          have HNO := Lib.hid (stripOf_no hst (srcLines_ok s _ hmem))
          have htl : t.size ≤ 16777220 := by have a1 := stripOf_le hst; have a2 := srcLines_le s _ hmem; omega
          clear ht hst hmem
          go_wp2
          go_loop [10] (fun j => ∃ q : Nat, q ≤ t.size ∧ j = .int .i64 q) (fun j => t.size - (intOf j).toNat)
          case atStart => exact ⟨0, Nat.zero_le _, rfl⟩
          case round =>
            obtain ⟨q, hq, rfl⟩ := hrel
            by_cases hqt : q < t.size
            · have hB2 : (((t[q]'hqt).toNat : Int) == 10) = false := beq_eq_false_iff_ne.2 (by have := HNO.out q hqt; omega)
              go_wp2
              go_round
              case rel => exact ⟨q + 1, by omega, by go_num⟩
              case measure => simp [intOf]; omega
            · obtain rfl : q = t.size := by omega
              go_wp2
              go_round
              case rel => exact ⟨k + 1, by omega, by go_num⟩
              case measure => simp [intOf]; omega
        · obtain rfl : k = nlc s s.size + 1 := by omega
          go_wp2
          go_ret
          exact ⟨rfl, HB.out⟩

end Go.Proofs.YtigfoghdffbfoaaDoor.fnLineSplitCountAnyBytes
