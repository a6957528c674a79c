/-
  n008_165: the bounds on the levels.
-/
import Derived.Test.YtpcoeakcnmeblaaFmtFrL
import Derived.IntWalk
import Derived.Deep.QuietTactic
import Derived.BigQuiet
namespace Go.Proofs.YtpcoeakcnmeblaaFmt
open Go Go.RowKit
namespace Fr

def BPost (P : Prop) (w : World) (e : Ending) (w' : World) : Prop := (∃ b : Bool, e = .returned (.bool b) ∧ (b = true → P)) ∧ w = w'
theorem BPost.no {P : Prop} (w : World) : BPost P w (.returned (.bool false)) w := ⟨⟨false, rfl, fun h => (by cases h)⟩, rfl⟩
theorem str_get (zs : List ByteArray) (h : ∀ z ∈ zs, z.size ≤ maxLen) (i : Nat) : (zs.getD i ByteArray.empty).size ≤ maxLen := by
  by_cases hi : i < zs.length
  · have e : zs.getD i ByteArray.empty = zs[i] := by simp [List.getD, List.getElem?_eq_getElem hi]
    rw [e]
    exact h _ (List.getElem_mem hi)
  · have e : zs.getD i ByteArray.empty = ByteArray.empty := by simp [List.getD, List.getElem?_eq_none (show zs.length ≤ i by omega)]
    rw [e]
    show (0 : Nat) ≤ _
    omega

set_option maxHeartbeats 3200000 in
set_option maxRecDepth 100000 in
theorem bytes1 (a : Option Addr) (n c : Nat) (f : Nat → Lev) (w : World) (hL : LevsAt w w.heap.size a n f) (hW : Wide n f) :
    Calls Tryf.prog 11 #[.slice a n c] w fun e w' => BPost (∀ i, i < n → (f i).ct.length ≤ 1048576) w e w' := by
  have hn := hL.1
  unfold maxLen at hn
  by_cases q1 : 1048576 < n
  · clear hL hW
    go_enter Tryf.func11, Tryf.ntmps11
    go_wp2
    all_goals go_ret
    all_goals exact BPost.no w
  have HL := Lib.hid hL
  have HW := Lib.hid hW
  clear hL hW
  go_enter Tryf.func11, Tryf.ntmps11
  go_wp2
  go_loop [3, 4] (fun sm i => ∃ q S : Nat, q ≤ n ∧ i = .int .i64 q ∧ sm = .int .i64 S ∧ S ≤ 1048576 ∧ Hid (∀ j, j < q → (f j).ct.length ≤ 1048576)) (fun _ i => n - (intOf i).toNat)
  case atStart => exact ⟨0, n, Nat.zero_le _, rfl, by go_num, by omega, Lib.hid (fun j hj => absurd hj (Nat.not_lt_zero j))⟩
  case round =>
    obtain ⟨q, S, hq, rfl, rfl, hS, HJ⟩ := hrel
    by_cases hlt : q < n
    · obtain ⟨b, off, rfl, hb, hcc⟩ := HL.out.2 (by omega)
      obtain ⟨h0, h1, h2, ca, cc, h3, h4⟩ := hcc q hlt
      obtain ⟨k1, k2, k3, k4⟩ := HW.out q hlt
      have hP : (f q).ct.length ≤ 1048576 → Hid (∀ j, j < q + 1 → (f j).ct.length ≤ 1048576) := fun h => Lib.hid (fun j hj => by
        by_cases e : j = q
        · rw [e]; exact h
        · exact HJ.out j (by omega))
      have HP := Lib.hid hP
      clear hP hcc
      generalize f q = l at h0 h1 h2 h3 h4 k1 k2 k3 k4 HP
      obtain ⟨vn, en, et, ct⟩ := l
      have H4 := Lib.hid h4
      have K4 := Lib.hid k4
      clear h4 k4
      unfold maxLen at k1 k2 k3
      replace h0 : w.cell? ⟨b, off + q * 4, none⟩ = some (.string vn) := h0
      replace h1 : w.cell? ⟨b, off + q * 4 + 1, none⟩ = some (.bool en) := h1
      replace h2 : w.cell? ⟨b, off + q * 4 + 2, none⟩ = some (.string et) := h2
      replace k1 : vn.size ≤ _ := k1
      replace k2 : et.size ≤ _ := k2
      replace k3 : ct.length ≤ _ := k3
      obtain ⟨m, hm⟩ : ∃ m, m = ct.length := ⟨_, rfl⟩
      replace h3 : w.cell? ⟨b, off + q * 4 + 3, none⟩ = some (.slice ca m cc) := by rw [hm]; exact h3
      replace k3 : m ≤ 2 ^ 63 - 1 := by rw [hm]; exact k3
      have HP2 : Hid (m ≤ 1048576 → Hid (∀ j, j < q + 1 → (f j).ct.length ≤ 1048576)) := Lib.hid (fun h => HP.out (by rw [hm] at h; exact h))
      have HM := Lib.hid hm
      clear hm HP
      by_cases g0 : 1048576 < vn.size
      · go_wp2
        all_goals go_ret
        all_goals exact BPost.no w
      by_cases g1 : 1048576 < S + vn.size
      · go_wp2
        all_goals go_ret
        all_goals exact BPost.no w
      by_cases g2 : 1048576 < et.size
      · go_wp2
        all_goals go_ret
        all_goals exact BPost.no w
      by_cases g3 : 1048576 < S + vn.size + et.size
      · go_wp2
        all_goals go_ret
        all_goals exact BPost.no w
      by_cases g4 : 1048576 < m
      · go_wp2
        all_goals go_ret
        all_goals exact BPost.no w
      by_cases g5 : 1048576 < S + vn.size + et.size + m
      · go_wp2
        all_goals go_ret
        all_goals exact BPost.no w
      go_wp2
      go_loop [3, 5] (fun sm j => ∃ r S2 : Nat, r ≤ m ∧ j = .int .i64 r ∧ sm = .int .i64 S2 ∧ S2 ≤ 1048576) (fun _ j => m - (intOf j).toNat)
      case atStart => exact ⟨0, S + vn.size + et.size + m, Nat.zero_le _, rfl, by go_num, by omega⟩
      case round =>
        obtain ⟨r, S2, hr, rfl, rfl, hS2⟩ := hrel
        by_cases hlt2 : r < m
        · obtain ⟨b2, off2, rfl, hb2, hcc2⟩ := H4.out.cell (k := r) (by rw [← HM.out]; exact hlt2)
          have hc1 := hcc2 r (by rw [← HM.out]; exact hlt2)
          have hs1 := str_get ct K4.out r
          unfold maxLen at hs1
          generalize ct.getD r ByteArray.empty = t at hc1 hs1
          clear hcc2
          by_cases g8 : 1048576 < t.size
          · go_wp2
            all_goals go_ret
            all_goals exact BPost.no w
          by_cases g9 : 1048576 < S2 + t.size
          · go_wp2
            all_goals go_ret
            all_goals exact BPost.no w
          go_wp2
          go_round
          case rel => exact ⟨r + 1, S2 + t.size, by omega, by go_num, by go_num, by omega⟩
          case measure => simp [intOf]; omega
        · obtain rfl : r = m := by omega
          go_wp2
          go_round
          case rel => exact ⟨q + 1, S2, by omega, by go_num, by go_num, by omega, HP2.out (by omega)⟩
          case measure => simp [intOf]; omega
    · obtain rfl : q = n := by omega
      go_wp2
      go_ret
      exact ⟨⟨true, rfl, fun _ => HJ.out⟩, rfl⟩

set_option maxHeartbeats 3200000 in
set_option maxRecDepth 100000 in
theorem bytes2 (a : Option Addr) (n c : Nat) (f : Nat → Lev) (w : World) (hL : LevsAt w w.heap.size a n f) (hW : Wide n f) :
    Calls Tryf.prog 5 #[.slice a n c] w fun e w' => BPost (∀ i, i < n → (f i).ct.length ≤ 1048576) w e w' := by
  have hn := hL.1
  unfold maxLen at hn
  by_cases q1 : 1048576 < n
  · clear hL hW
    go_enter Tryf.func5, Tryf.ntmps5
    go_wp2
    all_goals go_ret
    all_goals exact BPost.no w
  have HL := Lib.hid hL
  have HW := Lib.hid hW
  clear hL hW
  go_enter Tryf.func5, Tryf.ntmps5
  go_wp2
  go_loop [3, 4] (fun sm i => ∃ q S : Nat, q ≤ n ∧ i = .int .i64 q ∧ sm = .int .i64 S ∧ S ≤ 1048576 ∧ Hid (∀ j, j < q → (f j).ct.length ≤ 1048576)) (fun _ i => n - (intOf i).toNat)
  case atStart => exact ⟨0, n, Nat.zero_le _, rfl, by go_num, by omega, Lib.hid (fun j hj => absurd hj (Nat.not_lt_zero j))⟩
  case round =>
    obtain ⟨q, S, hq, rfl, rfl, hS, HJ⟩ := hrel
    by_cases hlt : q < n
    · obtain ⟨b, off, rfl, hb, hcc⟩ := HL.out.2 (by omega)
      obtain ⟨h0, h1, h2, ca, cc, h3, h4⟩ := hcc q hlt
      obtain ⟨k1, k2, k3, k4⟩ := HW.out q hlt
      have hP : (f q).ct.length ≤ 1048576 → Hid (∀ j, j < q + 1 → (f j).ct.length ≤ 1048576) := fun h => Lib.hid (fun j hj => by
        by_cases e : j = q
        · rw [e]; exact h
        · exact HJ.out j (by omega))
      have HP := Lib.hid hP
      clear hP hcc
      generalize f q = l at h0 h1 h2 h3 h4 k1 k2 k3 k4 HP
      obtain ⟨vn, en, et, ct⟩ := l
      have H4 := Lib.hid h4
      have K4 := Lib.hid k4
      clear h4 k4
      unfold maxLen at k1 k2 k3
      replace h0 : w.cell? ⟨b, off + q * 4, none⟩ = some (.string vn) := h0
      replace h1 : w.cell? ⟨b, off + q * 4 + 1, none⟩ = some (.bool en) := h1
      replace h2 : w.cell? ⟨b, off + q * 4 + 2, none⟩ = some (.string et) := h2
      replace k1 : vn.size ≤ _ := k1
      replace k2 : et.size ≤ _ := k2
      replace k3 : ct.length ≤ _ := k3
      obtain ⟨m, hm⟩ : ∃ m, m = ct.length := ⟨_, rfl⟩
      replace h3 : w.cell? ⟨b, off + q * 4 + 3, none⟩ = some (.slice ca m cc) := by rw [hm]; exact h3
      replace k3 : m ≤ 2 ^ 63 - 1 := by rw [hm]; exact k3
      have HP2 : Hid (m ≤ 1048576 → Hid (∀ j, j < q + 1 → (f j).ct.length ≤ 1048576)) := Lib.hid (fun h => HP.out (by rw [hm] at h; exact h))
      have HM := Lib.hid hm
      clear hm HP
      by_cases g0 : 1048576 < vn.size
      · go_wp2
        all_goals go_ret
        all_goals exact BPost.no w
      by_cases g1 : 1048576 < S + vn.size
      · go_wp2
        all_goals go_ret
        all_goals exact BPost.no w
      by_cases g2 : 1048576 < et.size
      · go_wp2
        all_goals go_ret
        all_goals exact BPost.no w
      by_cases g3 : 1048576 < S + vn.size + et.size
      · go_wp2
        all_goals go_ret
        all_goals exact BPost.no w
      by_cases g4 : 1048576 < m
      · go_wp2
        all_goals go_ret
        all_goals exact BPost.no w
      by_cases g5 : 1048576 < S + vn.size + et.size + m
      · go_wp2
        all_goals go_ret
        all_goals exact BPost.no w
      go_wp2
      go_loop [3, 5] (fun sm j => ∃ r S2 : Nat, r ≤ m ∧ j = .int .i64 r ∧ sm = .int .i64 S2 ∧ S2 ≤ 1048576) (fun _ j => m - (intOf j).toNat)
      case atStart => exact ⟨0, S + vn.size + et.size + m, Nat.zero_le _, rfl, by go_num, by omega⟩
      case round =>
        obtain ⟨r, S2, hr, rfl, rfl, hS2⟩ := hrel
        by_cases hlt2 : r < m
        · obtain ⟨b2, off2, rfl, hb2, hcc2⟩ := H4.out.cell (k := r) (by rw [← HM.out]; exact hlt2)
          have hc1 := hcc2 r (by rw [← HM.out]; exact hlt2)
          have hs1 := str_get ct K4.out r
          unfold maxLen at hs1
          generalize ct.getD r ByteArray.empty = t at hc1 hs1
          clear hcc2
          by_cases g8 : 1048576 < t.size
          · go_wp2
            all_goals go_ret
            all_goals exact BPost.no w
          by_cases g9 : 1048576 < S2 + t.size
          · go_wp2
            all_goals go_ret
            all_goals exact BPost.no w
          go_wp2
          go_round
          case rel => exact ⟨r + 1, S2 + t.size, by omega, by go_num, by go_num, by omega⟩
          case measure => simp [intOf]; omega
        · obtain rfl : r = m := by omega
          go_wp2
          go_round
          case rel => exact ⟨q + 1, S2, by omega, by go_num, by go_num, by omega, HP2.out (by omega)⟩
          case measure => simp [intOf]; omega
    · obtain rfl : q = n := by omega
      go_wp2
      go_ret
      exact ⟨⟨true, rfl, fun _ => HJ.out⟩, rfl⟩

def BPostW (P : Prop) (w : World) (e : Ending) (w' : World) : Prop := (∃ b : Bool, e = .returned (.bool b) ∧ (b = true → P)) ∧ ∃ k, w' = w.drewN k
theorem BPostW.no {P : Prop} {w w' : World} {k : Nat} (h : w' = w.drewN k) : BPostW P w (.returned (.bool false)) w' := ⟨⟨false, rfl, fun h => (by cases h)⟩, k, h⟩
theorem BPostW.no2 {P : Prop} {w w' : World} {k n : Nat} (h : w' = w.drewN k) : BPostW P w (.returned (.bool false)) (w'.drewN n) := ⟨⟨false, rfl, fun h => (by cases h)⟩, k + n, by rw [h, World.drewN_drewN]⟩
theorem cell_drewN {w w' : World} {k : Nat} (h : w' = w.drewN k) (a : Addr) : w'.cell? a = w.cell? a := by rw [h]; rfl
set_option maxHeartbeats 3200000 in
set_option maxRecDepth 100000 in
theorem fit (a : Option Addr) (n c : Nat) (f : Nat → Lev) (w : World) (hL : LevsAt w w.heap.size a n f) (hW : Wide n f) (hn : n ≤ 1048576) :
    Calls Tryf.prog 6 #[.slice a n c] w fun e w' => BPostW (∀ i, i < n → (f i).ct.length ≤ 1048576) w e w' := by
  have HL := Lib.hid hL
  have HW := Lib.hid hW
  clear hL hW
  go_enter Tryf.func6, Tryf.ntmps6
  go_wp2
  go_loopw [3, 4] (fun sm i wr => ∃ q S k : Nat, q ≤ n ∧ i = .int .i64 q ∧ sm = .int .i64 S ∧ S ≤ 1048576 ∧ Hid (∀ j, j < q → (f j).ct.length ≤ 1048576) ∧ Hid (wr = w.drewN k)) (fun _ i _ => n - (intOf i).toNat)
  case atStart => exact ⟨0, 0, 0, Nat.zero_le _, rfl, by go_num, by omega, Lib.hid (fun j hj => absurd hj (Nat.not_lt_zero j)), Lib.hid rfl⟩
  case round =>
    obtain ⟨q, S, k, hq, rfl, rfl, hS, HJ, HWR⟩ := hrel
    obtain ⟨wo, rfl⟩ : ∃ wo : World, wo = wr := ⟨_, rfl⟩
    by_cases hlt : q < n
    · obtain ⟨b, off, rfl, hb, hcc⟩ := HL.out.2 (by omega)
      obtain ⟨h0, h1, h2, ca, cc, h3, h4⟩ := hcc q hlt
      obtain ⟨k1, k2, k3, k4⟩ := HW.out q hlt
      have hP : (f q).ct.length ≤ 1048576 → Hid (∀ j, j < q + 1 → (f j).ct.length ≤ 1048576) := fun h => Lib.hid (fun j hj => by
        by_cases e : j = q
        · rw [e]; exact h
        · exact HJ.out j (by omega))
      have HP := Lib.hid hP
      clear hP hcc
      generalize f q = l at h0 h1 h2 h3 h4 k1 k2 k3 k4 HP
      obtain ⟨vn, en, et, ct⟩ := l
      have H4 := Lib.hid h4
      have K4 := Lib.hid k4
      clear h4 k4
      unfold maxLen at k1 k2 k3
      replace h0 : wo.cell? ⟨b, off + q * 4, none⟩ = some (.string vn) := (cell_drewN HWR.out _).trans h0
      clear h1
      replace h2 : wo.cell? ⟨b, off + q * 4 + 2, none⟩ = some (.string et) := (cell_drewN HWR.out _).trans h2
      replace k1 : vn.size ≤ _ := k1
      replace k2 : et.size ≤ _ := k2
      replace k3 : ct.length ≤ _ := k3
      obtain ⟨m, hm⟩ : ∃ m, m = ct.length := ⟨_, rfl⟩
      replace h3 : wo.cell? ⟨b, off + q * 4 + 3, none⟩ = some (.slice ca m cc) := (cell_drewN HWR.out _).trans (by rw [hm]; exact h3)
      replace k3 : m ≤ 2 ^ 63 - 1 := by rw [hm]; exact k3
      have HP2 : Hid (m ≤ 1048576 → Hid (∀ j, j < q + 1 → (f j).ct.length ≤ 1048576)) := Lib.hid (fun h => HP.out (by rw [hm] at h; exact h))
      have HM := Lib.hid hm
      clear hm HP
      by_cases g0 : 1048576 < vn.size
      · go_wp2
        all_goals go_ret
        all_goals exact BPostW.no HWR.out
      by_cases g1 : 1048576 < et.size
      · go_wp2
        all_goals go_ret
        all_goals exact BPostW.no HWR.out
      by_cases g2 : 1048576 < m
      · go_wp2
        all_goals go_ret
        all_goals exact BPostW.no HWR.out
      by_cases g3 : 1048576 < S + (64 + vn.size + et.size + 16 * m)
      · go_wp2_with fail
        go_quiet (fail)
        go_wp2
        all_goals go_ret
        all_goals exact BPostW.no2 HWR.out
      go_wp2_with fail
      go_quiet (fail)
      have HWQ : Hid (wo.drewN nq = w.drewN (k + nq)) := Lib.hid (by rw [HWR.out, World.drewN_drewN])
      clear HWR
      go_wp2
      go_loopw [3, 5] (fun sm j wr2 => ∃ r S2 k2 : Nat, r ≤ m ∧ j = .int .i64 r ∧ sm = .int .i64 S2 ∧ S2 ≤ 1048576 ∧ Hid (wr2 = w.drewN k2)) (fun _ j _ => m - (intOf j).toNat)
      case atStart => exact ⟨0, S + (64 + vn.size + et.size + 16 * m), k + nq, Nat.zero_le _, rfl, by go_num, by omega, HWQ⟩
      case round =>
        obtain ⟨r, S2, k2, hr, rfl, rfl, hS2, HW2⟩ := hrel
        have y3 : wr.cell? ⟨b, off + q * 4 + 3, none⟩ = some (.slice ca m cc) := by
          rw [cell_drewN HW2.out, ← cell_drewN HWQ.out]
          exact h3
        by_cases hlt2 : r < m
        · obtain ⟨b2, off2, rfl, hb2, hcc2⟩ := H4.out.cell (k := r) (by rw [← HM.out]; exact hlt2)
          have hc1 := (cell_drewN HW2.out _).trans (hcc2 r (by rw [← HM.out]; exact hlt2))
          have hs1 := str_get ct K4.out r
          unfold maxLen at hs1
          generalize ct.getD r ByteArray.empty = t at hc1 hs1
          clear hcc2
          by_cases g8 : 1048576 < t.size
          · go_wp2
            all_goals go_ret
            all_goals exact BPostW.no HW2.out
          by_cases g9 : 1048576 < S2 + t.size
          · go_wp2
            all_goals go_ret
            all_goals exact BPostW.no HW2.out
          go_wp2
          go_roundw
          case rel => exact ⟨r + 1, S2 + t.size, k2, by omega, by go_num, by go_num, by omega, HW2⟩
          case measure => simp [intOf]; omega
        · obtain rfl : r = m := by omega
          go_wp2
          go_roundw
          case rel => exact ⟨q + 1, S2, k2, by omega, by go_num, by go_num, by omega, HP2.out (by omega), HW2⟩
          case measure => simp [intOf]; omega
    · obtain rfl : q = n := by omega
      go_wp2
      go_ret
      exact ⟨⟨true, rfl, fun _ => HJ.out⟩, _, HWR.out⟩

end Fr
end Go.Proofs.YtpcoeakcnmeblaaFmt
