/-
  The walk of FnBuildSourceSplitsAtNewlines.
-/
import Derived.Test.YtmieljdnfjpheaaDoorSrcW
import Derived.Test.YtmieljdnfjpheaaDoorLinesFlat
import Derived.Test.YtmieljdnfjpheaaDoorVUtfA
import Derived.Deep.QuietTactic
import Derived.BigQuiet
namespace Go.Proofs.YtmieljdnfjpheaaDoor.fnBuildSourceSplitsAtNewlines
open Go Go.RowKit Go.Shelf
open Go.Proofs.YtmieljdnfjpheaaDoor.fnBuildSourceLineCountEveryString (line_at)

theorem snoc_data (s : ByteArray) : (s ++ ⟨#[10]⟩ : ByteArray).data.toList = s.data.toList ++ [10] := by simp [ByteArray.data_append]
theorem snoc_size (s : ByteArray) : (s ++ ⟨#[10]⟩ : ByteArray).size = s.size + 1 := by rw [ByteArray.size_append]; rfl
theorem get_of_list (T : ByteArray) (i : Nat) (h : i < T.size) (b : UInt8) (hb : T.data.toList[i]? = some b) : T[i]'h = b := by
  have h2 : i < T.data.toList.length := by rw [Array.length_toList]; exact h
  rw [List.getElem?_eq_getElem h2] at hb
  exact Option.some.inj hb

theorem line_get {s : ByteArray} (hv : ValidU s) {T : ByteArray} (hT : s ++ ⟨#[10]⟩ = T) (k : Nat) (hk : k < (srcLines s).length) : ∃ (t : ByteArray) (m : Nat), ((srcLines s).map strV)[k]? = some (.string t) ∧ t.size = m + 1 ∧ t.size ≤ 4 * s.size + 1 ∧ (∀ h : m < t.size, (t[m]'h).toNat = 10) ∧ (∀ (j : Nat) (h : j < t.size), j < m → (t[j]'h).toNat ≠ 10) ∧
    lstart s (k + 1) = lstart s k + (m + 1) ∧ lstart s k + (m + 1) ≤ T.size ∧ ∀ (j : Nat) (h : j < t.size) (h' : lstart s k + j < T.size), T[lstart s k + j]'h' = t[j]'h := by
  obtain ⟨t, m, h1, h2, h3, h4, h5⟩ := line_at s k hk
  have ht : t = ⟨((srcLines s)[k]).toArray⟩ := by
    rw [List.getElem?_map, List.getElem?_eq_getElem hk, Option.map_some] at h1
    have := Option.some.inj h1
    unfold strV at this
    injection this with this
    exact this.symm
  have hl : ((srcLines s)[k]).length = m + 1 := by
    rw [ht] at h2
    exact List.size_toArray.symm.trans h2
  have hn := lstart_next s k hk
  rw [hl] at hn
  have hfl : T.data.toList = (srcLines s).flatten := by rw [← hT, snoc_data, srcLines_flat hv]
  have hle : lstart s (k + 1) ≤ T.size := by
    have e1 : (srcLines s).flatten.length = T.size := by rw [← hfl, Array.length_toList]; rfl
    have e2 : (srcLines s).flatten = ((srcLines s).take (k + 1)).flatten ++ ((srcLines s).drop (k + 1)).flatten := by rw [← List.flatten_append, List.take_append_drop]
    rw [← e1, e2, List.length_append]
    unfold lstart
    omega
  refine ⟨t, m, h1, h2, h3, h4, h5, hn, by omega, fun j h h' => ?_⟩
  have hj : j < ((srcLines s)[k]).length := by omega
  have := flat_at (srcLines s) k j hk hj
  rw [← hfl] at this
  rw [get_of_list T _ h' _ this]
  subst ht
  rfl

theorem bytes_ok (d s : ByteArray) (w : World) (h1 : d.size + s.size ≤ 1048576) :
    Calls Tryd.prog 24 #[.string d, .string s] w fun e w' => e = .returned (.bool true) ∧ w = w' := by
  have q1 : decide (1048576 < d.size) = false := decide_eq_false (by omega)
  have q2 : decide (1048576 < s.size) = false := decide_eq_false (by omega)
  have q3 : decide (1048576 < d.size + s.size) = false := decide_eq_false (by omega)
  go_enter Tryd.func24, Tryd.ntmps24
  go_wp2
  all_goals go_ret
  all_goals exact ⟨rfl, rfl⟩
theorem bytes_no (d s : ByteArray) (w : World) (hd : d.size ≤ maxLen) (hs : s.size ≤ maxLen) (h1 : 1048576 < d.size + s.size) :
    Calls Tryd.prog 24 #[.string d, .string s] w fun e w' => e = .returned (.bool false) ∧ w = w' := by
  unfold maxLen at hs hd
  by_cases q1 : 1048576 < d.size
  · go_enter Tryd.func24, Tryd.ntmps24
    go_wp2
    all_goals go_ret
    all_goals exact ⟨rfl, rfl⟩
  by_cases q2 : 1048576 < s.size
  · go_enter Tryd.func24, Tryd.ntmps24
    go_wp2
    all_goals go_ret
    all_goals exact ⟨rfl, rfl⟩
  · go_enter Tryd.func24, Tryd.ntmps24
    go_wp2
    all_goals go_ret
    all_goals exact ⟨rfl, rfl⟩

set_option maxHeartbeats 3200000 in
set_option maxRecDepth 100000 in
theorem walk (d s : ByteArray) (w : World) (hd : d.size ≤ maxLen) (hs : s.size ≤ maxLen) :
    Calls Tryd.prog 8 #[.string d, .string s] w fun e w' => e = .returned (.bool true) ∧ Below w.heap.size w w' := by
  by_cases hz : 1048576 < d.size + s.size
  · go_enter Tryd.func8, Tryd.ntmps8
    go_wp2_with (go_at_call 24; refine (bytes_no d s _ hd hs hz).mono ?_; rintro e w' ⟨rfl, rfl⟩)
    go_ret
    exact ⟨rfl, Below.refl _ _⟩
  have hz' : d.size + s.size ≤ 1048576 := by omega
  have hlen := srcLines_len s
  have hnl := nlc_le s s.size
  obtain ⟨T, hT⟩ : ∃ T : ByteArray, s ++ ⟨#[10]⟩ = T := ⟨_, rfl⟩
  have hTs : T.size = s.size + 1 := by rw [← hT]; exact snoc_size s
  have HT := Lib.hid hT
  have HTS := Lib.hid hTs
  have hTle : T.size ≤ 1048577 := by omega
  have HLEN := Lib.hid hlen
  have hlenle : (srcLines s).length ≤ 1048577 := by omega
  have hlenpos : 0 < (srcLines s).length := by omega
  clear hz hd hs hTs hlen
  go_enter Tryd.func8, Tryd.ntmps8
  go_wp2_with fail
  refine (bytes_ok d s _ hz').mono ?_
  rintro e w' ⟨rfl, rfl⟩
  go_wp2_with fail
  refine (zzValidUTF8 s (by omega) _).mono ?_
  rintro e w' ⟨b, rfl, hbv, rfl⟩
  have HBV := Lib.hid hbv
  clear hbv
  cases b
  · go_wp2
    go_ret
    exact ⟨rfl, Below.refl _ _⟩
  have HV := Lib.hid (HBV.out rfl)
  clear HBV
  have HEND := Lib.hid (lstart_end HV.out)
  go_wp2_with fail
  refine (buildSource d s (by omega) _).mono ?_
  rintro e w1 ⟨N, v, rfl, hN, hNb, hown, hb⟩
  obtain ⟨g, cap, rfl, hg1, hg2⟩ := hown.form (by omega)
  have c0 : w1.cell? ⟨N, 0, none⟩ = some (.string d) := (cell_of_row w1 N 0 _ _ _ hNb).trans rfl
  have c1 : w1.cell? ⟨N, 1, none⟩ = some (.slice (some ⟨g, 0, none⟩) (srcLines s).length cap) := (cell_of_row w1 N 1 _ _ _ hNb).trans rfl
  have HO := Lib.hid hown
  clear hown hNb
  go_wp2
  go_loopw [7, 8] (fun ps i wr => ∃ k nd : Nat, k ≤ (srcLines s).length ∧ i = .int .i64 k ∧ ps = .int .i64 (lstart s k : Int) ∧ lstart s k ≤ T.size ∧ wr = w1.drewN nd) (fun _ i _ => (srcLines s).length - (intOf i).toNat)
  case atStart => exact ⟨0, 0, Nat.zero_le _, rfl, rfl, Nat.zero_le _, rfl⟩
  case round =>
    obtain ⟨k, nd, hk, rfl, rfl, hls, rfl⟩ := hrel
    by_cases hlt : k < (srcLines s).length
    · obtain ⟨t, m, ht, hm, hmax, hlast, hno, hnx, hfit, hbyte⟩ := line_get HV.out HT.out k hlt
      have ck : w1.cell? ⟨g, k, none⟩ = some (.string t) := (HO.out.cellAt k (by omega)).trans ht
      have hmt : m < t.size := by omega
      have hB : (((t[m]'hmt).toNat : Int) != 10) = false := by simp [hlast hmt]
      have hB0 : ((m : Int) + 1 == 0) = false := beq_eq_false_iff_ne.2 (by omega)
      have HNO := Lib.hid hno
      have HNX := Lib.hid hnx
      have HBY := Lib.hid hbyte
      clear ht hlast hno hnx hbyte
      go_wp2
      go_loopw [7, 10] (fun ps j wr => ∃ q P ne : Nat, q ≤ m + 1 ∧ j = .int .i64 q ∧ ps = .int .i64 (P : Int) ∧ Hid (P = lstart s k + q) ∧ wr = w1.drewN ne) (fun _ j _ => m + 1 - (intOf j).toNat)
      case atStart => exact ⟨0, lstart s k, nd, Nat.zero_le _, rfl, rfl, Lib.hid rfl, rfl⟩
      case round =>
        obtain ⟨q, P, ne, hq, rfl, rfl, HP, rfl⟩ := hrel
        by_cases hqm : q < m + 1
        · have hqt : q < t.size := by omega
          have hqT : P < T.size := by have := HP.out; omega
          have hE : (((T[P]'hqT).toNat : Int) != ((t[q]'hqt).toNat : Int)) = false := by
            have e : T[P]'hqT = t[q]'hqt := by
              have := HBY.out q hqt (by rw [← HP.out]; exact hqT)
              rw [← this]
              congr 1
            rw [e]; simp
          have i1 : (0 : Int) ≤ (P : Int) := Int.natCast_nonneg _
          have i2 : (P : Int) < (T.size : Int) := by omega
          have i3 : (0 : Int) ≤ (q : Int) := Int.natCast_nonneg _
          have i4 : (q : Int) < (t.size : Int) := by omega
          have i5 : decide (T.size ≤ P) = false := decide_eq_false (by omega)
          by_cases hq2 : q < m
          · have hB2 : (((t[q]'hqt).toNat : Int) == 10) = false := beq_eq_false_iff_ne.2 (by have := HNO.out q hqt hq2; omega)
            go_wp2_with fail
            go_quiet (fail)
            go_wp2
            go_roundw
            case rel => exact ⟨q + 1, P + 1, _, by omega, by go_num, by go_num, Lib.hid (by have := HP.out; omega), rfl⟩
            case measure => simp [intOf]; omega
          · have hB3 : decide ((q : Int) < (m : Int)) = false := decide_eq_false (by omega)
            go_wp2_with fail
            go_quiet (fail)
            go_wp2
            go_roundw
            case rel => exact ⟨q + 1, P + 1, _, by omega, by go_num, by go_num, Lib.hid (by have := HP.out; omega), rfl⟩
            case measure => simp [intOf]; omega
        · obtain rfl : q = m + 1 := by omega
          go_wp2
          go_roundw
          case rel => exact ⟨k + 1, ne, by omega, by go_num, by rw [HNX.out, HP.out], by rw [HNX.out]; exact hfit, rfl⟩
          case measure => simp [intOf]; omega
    · obtain rfl : k = (srcLines s).length := by omega
      have hfin : ((lstart s (srcLines s).length : Int) == (T.size : Int)) = true := beq_iff_eq.2 (by have := HEND.out; have := HTS.out; omega)
      go_wp2
      go_ret
      exact ⟨rfl, drewN_below hb _⟩

end Go.Proofs.YtmieljdnfjpheaaDoor.fnBuildSourceSplitsAtNewlines
