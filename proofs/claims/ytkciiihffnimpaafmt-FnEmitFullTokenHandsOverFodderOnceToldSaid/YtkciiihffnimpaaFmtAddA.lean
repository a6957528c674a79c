/-
  FnAddFodderRecordsScript: the bounds on the arguments' lengths; modNN; fodderKindOf.
-/
import Derived.Test.YtkciiihffnimpaaFmtFullA
import Derived.Test.YtkciiihffnimpaaFmtCopyI
import Derived.IntWalk
namespace Go.Proofs.YtkciiihffnimpaaFmt
open Go Go.RowKit Go.Shelf

theorem modNN (v m : Int) (hm : 1 ≤ m) (hm2 : m ≤ 1000000) (h0 : -9223372036854775808 ≤ v) (h1 : v ≤ 9223372036854775807) (w : World) :
    Calls Tryf.prog 13 #[.int .i64 v, .int .i64 m] w fun e w' => e = .returned (.int .i64 (v % m)) ∧ w = w' := by
  have hmz : (m == 0) = false := beq_eq_false_iff_ne.2 (by omega)
  have e0 := Int.emod_nonneg v (show m ≠ 0 by omega)
  have e1 := Int.emod_lt_of_pos v (show 0 < m by omega)
  by_cases hv : 0 ≤ v
  · have hd : decide (v % m < 0) = false := decide_eq_false (by omega)
    go_enter Tryf.func13, Tryf.ntmps13
    go_wp2
    all_goals go_ret
    all_goals exact ⟨rfl, rfl⟩
  have hdv : (m ∣ v) ↔ v % m = 0 := Int.dvd_iff_emod_eq_zero
  have ht : v.tmod m = if v % m = 0 then 0 else v % m - m := by
    rw [Int.tmod_eq_emod]
    by_cases hz : v % m = 0
    · rw [if_pos hz, if_pos (.inr (hdv.2 hz))]; omega
    · rw [if_neg hz, if_neg (by rintro (h' | h'); exact hv h'; exact hz (hdv.1 h'))]
      rw [Int.natAbs_of_nonneg (by omega)]
  by_cases hz : v % m = 0
  · rw [if_pos hz] at ht
    have HZ := Lib.hid hz
    clear hz hdv e0 e1
    go_enter Tryf.func13, Tryf.ntmps13
    go_wp2
    all_goals go_ret
    all_goals exact ⟨by rw [HZ.out]; rfl, rfl⟩
  · rw [if_neg hz] at ht
    obtain ⟨R, hR⟩ : ∃ R, v % m = R := ⟨_, rfl⟩
    rw [hR] at ht e0 e1
    have HR := Lib.hid hR
    clear hz hdv hR
    obtain ⟨T, hT⟩ : ∃ T, T = R - m := ⟨_, rfl⟩
    rw [← hT] at ht
    have t0 : T < 0 := by omega
    have t1 : -1000000 ≤ T := by omega
    have HT : Hid (T + m = R) := Lib.hid (by omega)
    clear hT
    go_enter Tryf.func13, Tryf.ntmps13
    go_wp2
    all_goals go_ret
    all_goals exact ⟨by rw [HR.out, ← HT.out]; rfl, rfl⟩

theorem fodKind0 (w : World) : Calls Tryf.prog 15 #[.int .i64 0] w fun e w' => e = .returned (.int .i64 0) ∧ w = w' := by
  go_enter Tryf.func15, Tryf.ntmps15
  go_wp2
  go_ret
  exact ⟨rfl, rfl⟩

theorem fodKind1 (w : World) : Calls Tryf.prog 15 #[.int .i64 1] w fun e w' => e = .returned (.int .i64 1) ∧ w = w' := by
  go_enter Tryf.func15, Tryf.ntmps15
  go_wp2
  go_ret
  exact ⟨rfl, rfl⟩

theorem fodKind2 (w : World) : Calls Tryf.prog 15 #[.int .i64 2] w fun e w' => e = .returned (.int .i64 2) ∧ w = w' := by
  go_enter Tryf.func15, Tryf.ntmps15
  go_wp2
  go_ret
  exact ⟨rfl, rfl⟩

theorem fodKind (c : Int) (h : c = 0 ∨ c = 1 ∨ c = 2) (w : World) : Calls Tryf.prog 15 #[.int .i64 c] w fun e w' => e = .returned (.int .i64 c) ∧ w = w' := by
  rcases h with rfl | rfl | rfl
  · exact fodKind0 w
  · exact fodKind1 w
  · exact fodKind2 w

def AddB (n1 n2 n3 n4 : Nat) (zs : List ByteArray) : Prop := n1 ≤ 1048576 ∧ n2 ≤ 1048576 ∧ n3 ≤ 1048576 ∧ n4 ≤ 1048576 ∧ ∀ i, i < n4 → (zs.getD i ByteArray.empty).size ≤ 1048576

set_option maxHeartbeats 1600000 in
set_option maxRecDepth 100000 in
theorem zzBytesAdd (a1 a2 a3 a : Option Addr) (n1 c1 n2 c2 n3 c3 n c : Nat) (zs : List ByteArray) (w : World) (hi : StrsAt w w.heap.size (.slice a n c) zs) (hl : zs.length = n) (h1 : n1 ≤ maxLen) (h2 : n2 ≤ maxLen) (h3 : n3 ≤ maxLen) (hn : n ≤ maxLen) (hz : ∀ i, i < n → (zs.getD i ByteArray.empty).size ≤ maxLen) :
    Calls Tryf.prog 5 #[.slice a1 n1 c1, .slice a2 n2 c2, .slice a3 n3 c3, .slice a n c] w (BPost (AddB n1 n2 n3 n zs) w) := by
  unfold maxLen at hn h1 h2 h3 hz
  have HI := Lib.hid hi
  have HL := Lib.hid hl
  have HZ := Lib.hid hz
  clear hi hl hz
  by_cases q0 : 1048576 < n1
  · clear HI HL HZ
    go_enter Tryf.func5, Tryf.ntmps5
    go_wp2
    all_goals go_ret
    all_goals exact BPost.no w
  have p0 : n1 ≤ 1048576 := by omega
  by_cases q1 : 1048576 < n2
  · clear HI HL HZ
    go_enter Tryf.func5, Tryf.ntmps5
    go_wp2
    all_goals go_ret
    all_goals exact BPost.no w
  have p1 : n2 ≤ 1048576 := by omega
  by_cases r1 : 1048576 < n1 + n2
  · clear HI HL HZ
    go_enter Tryf.func5, Tryf.ntmps5
    go_wp2
    all_goals go_ret
    all_goals exact BPost.no w
  have t1 : n1 + n2 ≤ 1048576 := by omega
  by_cases q2 : 1048576 < n3
  · clear HI HL HZ
    go_enter Tryf.func5, Tryf.ntmps5
    go_wp2
    all_goals go_ret
    all_goals exact BPost.no w
  have p2 : n3 ≤ 1048576 := by omega
  by_cases r2 : 1048576 < n1 + n2 + n3
  · clear HI HL HZ
    go_enter Tryf.func5, Tryf.ntmps5
    go_wp2
    all_goals go_ret
    all_goals exact BPost.no w
  have t2 : n1 + n2 + n3 ≤ 1048576 := by omega
  by_cases q3 : 1048576 < n
  · clear HI HL HZ
    go_enter Tryf.func5, Tryf.ntmps5
    go_wp2
    all_goals go_ret
    all_goals exact BPost.no w
  have p3 : n ≤ 1048576 := by omega
  by_cases r3 : 1048576 < n1 + n2 + n3 + n
  · clear HI HL HZ
    go_enter Tryf.func5, Tryf.ntmps5
    go_wp2
    all_goals go_ret
    all_goals exact BPost.no w
  have t3 : n1 + n2 + n3 + n ≤ 1048576 := by omega
  go_enter Tryf.func5, Tryf.ntmps5
  go_wp2
  go_loop [9, 10] (fun z i => ∃ q S : Nat, q ≤ n ∧ i = .int .i64 q ∧ z = .int .i64 S ∧ S ≤ 1048576 ∧ Hid (∀ i, i < q → (zs.getD i ByteArray.empty).size ≤ 1048576)) (fun _ i => n - (intOf i).toNat)
  case atStart => exact ⟨0, n1 + n2 + n3 + n, Nat.zero_le _, rfl, by go_num, by omega, Lib.hid (fun i hi => absurd hi (by omega))⟩
  case round =>
    obtain ⟨q, S, hq, rfl, rfl, hS, HQ⟩ := hrel
    by_cases hlt : q < n
    · obtain ⟨b, off, rfl, hb, hcc⟩ := HI.out.cell (k := q) (by rw [HL.out]; exact hlt)
      have hc1 := hcc q (by rw [HL.out]; exact hlt)
      have hs1 := HZ.out q hlt
      have hnx : (zs.getD q ByteArray.empty).size ≤ 1048576 → ∀ i, i < q + 1 → (zs.getD i ByteArray.empty).size ≤ 1048576 := fun h i hi => by
        by_cases hiq : i < q
        · exact HQ.out i hiq
        · obtain rfl : i = q := by omega
          exact h
      have HNX := Lib.hid hnx
      generalize zs.getD q ByteArray.empty = t at hc1 hs1 HNX
      clear hcc hnx
      by_cases u1 : 1048576 < t.size
      · go_wp2
        all_goals go_ret
        all_goals exact BPost.no w
      have u2 : t.size ≤ 1048576 := by omega
      by_cases u3 : 1048576 < S + t.size
      · go_wp2
        all_goals go_ret
        all_goals exact BPost.no w
      have u4 : S + t.size ≤ 1048576 := by omega
      go_wp2
      go_round
      case rel => exact ⟨q + 1, S + t.size, by omega, by go_num, by go_num, u4, Lib.hid (HNX.out u2)⟩
      case measure => simp [intOf]; omega
    · obtain rfl : q = n := by omega
      go_wp2
      go_ret
      exact ⟨⟨true, rfl, fun _ => ⟨p0, p1, p2, p3, HQ.out⟩⟩, rfl⟩

end Go.Proofs.YtkciiihffnimpaaFmt
