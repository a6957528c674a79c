/-
  n008_32: the bound on the arguments' bytes; the plain alphabet.
-/
import Derived.Test.YthohpccmleodpaaFmtLxA
import Derived.IntWalk
namespace Go.Proofs.YthohpccmleodpaaFmt
open Go Go.RowKit
namespace Lx

set_option maxHeartbeats 1600000 in
set_option maxRecDepth 100000 in
theorem tBytes (d m s : ByteArray) (w : World) (hd : d.size ≤ maxLen) (hm : m.size ≤ maxLen) (hs : s.size ≤ maxLen) :
    Calls Tryf.prog 4 #[.string d, .string m, .string s] w fun e w' => (∃ b, e = .returned (.bool b)) ∧ w = w' := by
  unfold maxLen at hd hm hs
  by_cases g0 : 1048576 < d.size
  · go_enter Tryf.func4, Tryf.ntmps4
    go_wp2
    all_goals go_ret
    all_goals exact ⟨⟨_, rfl⟩, rfl⟩
  by_cases g1 : 1048576 < m.size
  · go_enter Tryf.func4, Tryf.ntmps4
    go_wp2
    all_goals go_ret
    all_goals exact ⟨⟨_, rfl⟩, rfl⟩
  by_cases g2 : 1048576 < d.size + m.size
  · go_enter Tryf.func4, Tryf.ntmps4
    go_wp2
    all_goals go_ret
    all_goals exact ⟨⟨_, rfl⟩, rfl⟩
  by_cases g3 : 1048576 < s.size
  · go_enter Tryf.func4, Tryf.ntmps4
    go_wp2
    all_goals go_ret
    all_goals exact ⟨⟨_, rfl⟩, rfl⟩
  by_cases g4 : 1048576 < d.size + m.size + s.size
  · go_enter Tryf.func4, Tryf.ntmps4
    go_wp2
    all_goals go_ret
    all_goals exact ⟨⟨_, rfl⟩, rfl⟩
  go_enter Tryf.func4, Tryf.ntmps4
  go_wp2
  all_goals go_ret
  all_goals exact ⟨⟨_, rfl⟩, rfl⟩

def PlainPost (s : ByteArray) (w : World) (e : Ending) (w' : World) : Prop := (∃ b : Bool, e = .returned (.bool b) ∧ (b = true → Plain s)) ∧ w = w'
set_option maxHeartbeats 1600000 in
set_option maxRecDepth 100000 in
theorem plain (s : ByteArray) (w : World) (hs : s.size ≤ 1000000) :
    Calls Tryf.prog 5 #[.string s] w (PlainPost s w) := by
  go_enter Tryf.func5, Tryf.ntmps5
  go_wp2
  go_loop [3] (fun i => ∃ q : Nat, q ≤ s.size ∧ i = .int .i64 q ∧ Hid (∀ p, p < q → okB (byteAt s p) = true)) (fun i => s.size - (intOf i).toNat)
  case atStart => exact ⟨0, Nat.zero_le _, rfl, Lib.hid (fun p hp => absurd hp (Nat.not_lt_zero p))⟩
  case round =>
    obtain ⟨q, hq, rfl, HP⟩ := hrel
    by_cases hlt : q < s.size
    · have i1 : (q : Int) < (s.size : Int) := by omega
      have i0 : (0 : Int) ≤ (q : Int) := by omega
      have hby := byte_of_get s q hlt
      have hstep : okB (byteAt s q) = true → Hid (∀ p, p < q + 1 → okB (byteAt s p) = true) := fun h => Lib.hid (fun p hp => by
        by_cases e : p = q
        · rw [e]; exact h
        · exact HP.out p (by omega))
      rw [← hby] at hstep
      have HST := Lib.hid hstep
      clear hstep hby
      cases h0 : isD (s[q]'hlt).toNat with
      | true =>
        go_wp2_with fail
        refine (digitB _ _).mono ?_
        rw [h0]
        rintro e w1 ⟨rfl, rfl⟩
        go_wp2
        go_round
        case rel => exact ⟨q + 1, by omega, by go_num, HST.out (by simp [okB, h0])⟩
        case measure => simp [intOf]; omega
      | false =>
      cases h1 : idF ((s[q]'hlt).toNat : Int) with
      | true =>
        go_wp2_with fail
        refine (digitB _ _).mono ?_
        rw [h0]
        rintro e w1 ⟨rfl, rfl⟩
        go_wp2_with fail
        refine (letterB _ _).mono ?_
        rw [h1]
        rintro e w1 ⟨rfl, rfl⟩
        go_wp2
        go_round
        case rel => exact ⟨q + 1, by omega, by go_num, HST.out (by simp [okB, h1])⟩
        case measure => simp [intOf]; omega
      | false =>
      cases h2 : isWs ((s[q]'hlt).toNat : Int) with
      | true =>
        go_wp2_with fail
        refine (digitB _ _).mono ?_
        rw [h0]
        rintro e w1 ⟨rfl, rfl⟩
        go_wp2_with fail
        refine (letterB _ _).mono ?_
        rw [h1]
        rintro e w1 ⟨rfl, rfl⟩
        go_wp2_with fail
        refine (spaceB _ _).mono ?_
        rw [h2]
        rintro e w1 ⟨rfl, rfl⟩
        go_wp2
        go_round
        case rel => exact ⟨q + 1, by omega, by go_num, HST.out (by simp [okB, h2])⟩
        case measure => simp [intOf]; omega
      | false =>
      by_cases h3 : 0 ≤ punct (s[q]'hlt).toNat
      · have j3 : decide (0 ≤ punct (s[q]'hlt).toNat) = true := decide_eq_true h3
        have HO := HST.out (by simp [okB, h3])
        go_wp2_with fail
        refine (digitB _ _).mono ?_
        rw [h0]
        rintro e w1 ⟨rfl, rfl⟩
        go_wp2_with fail
        refine (letterB _ _).mono ?_
        rw [h1]
        rintro e w1 ⟨rfl, rfl⟩
        go_wp2_with fail
        refine (spaceB _ _).mono ?_
        rw [h2]
        rintro e w1 ⟨rfl, rfl⟩
        go_wp2_with fail
        refine (punctB _ _).mono ?_
        rintro e w1 ⟨rfl, rfl⟩
        go_wp2
        go_round
        case rel => exact ⟨q + 1, by omega, by go_num, HO⟩
        case measure => simp [intOf]; omega
      · have j3 : decide (0 ≤ punct (s[q]'hlt).toNat) = false := decide_eq_false h3
        go_wp2_with fail
        refine (digitB _ _).mono ?_
        rw [h0]
        rintro e w1 ⟨rfl, rfl⟩
        go_wp2_with fail
        refine (letterB _ _).mono ?_
        rw [h1]
        rintro e w1 ⟨rfl, rfl⟩
        go_wp2_with fail
        refine (spaceB _ _).mono ?_
        rw [h2]
        rintro e w1 ⟨rfl, rfl⟩
        go_wp2_with fail
        refine (punctB _ _).mono ?_
        rintro e w1 ⟨rfl, rfl⟩
        go_wp2
        go_ret
        exact ⟨⟨false, rfl, fun h => by cases h⟩, rfl⟩
    · have i1 : ¬ (q : Int) < (s.size : Int) := by omega
      have hqs : q = s.size := by omega
      have HQ := Lib.hid hqs
      clear hqs
      go_wp2
      go_ret
      exact ⟨⟨true, rfl, fun _ => by rw [HQ.out] at HP; exact HP.out⟩, rfl⟩

end Lx
end Go.Proofs.YthohpccmleodpaaFmt
