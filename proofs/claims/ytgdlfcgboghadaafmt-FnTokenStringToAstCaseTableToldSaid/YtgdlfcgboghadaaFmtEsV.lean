/-
  The law's own reader of escapes answers as the plain one.
-/
import Derived.Test.YtgdlfcgboghadaaFmtEsP
import Derived.IntWalk
import Derived.Laws.IdiomStrings
namespace Go.Proofs.YtgdlfcgboghadaaFmt
open Go Go.RowKit Go.Shelf

def hvI (c : Nat) : Int := match hv c with | some v => v | none => -1
theorem hexVal (c : Nat) (hc : c < 256) (w : World) : Calls Tryf.prog 30 #[.int .u8 (c : Int)] w fun e w' => e = .returned (.int .i64 (hvI c)) ∧ w = w' := by
  by_cases b1 : c < 48
  · have b0 : 0 ≤ c := by omega
    have HE : Hid (hvI c = -1) := Lib.hid (by unfold hvI hv; rw [if_neg (by omega), if_neg (by omega), if_neg (by omega)])
    have t0 : decide (48 ≤ (c : Int)) = false := decide_eq_false (by omega)
    have t1 : (c : Int) ≤ 57 := by omega
    have t2 : decide (97 ≤ (c : Int)) = false := decide_eq_false (by omega)
    have t3 : (c : Int) ≤ 102 := by omega
    have t4 : decide (65 ≤ (c : Int)) = false := decide_eq_false (by omega)
    have t5 : (c : Int) ≤ 70 := by omega
    go_enter Tryf.func30, Tryf.ntmps30
    go_wp2
    go_ret
    exact ⟨by rw [HE.out]; rfl, rfl⟩
  by_cases b1 : c < 58
  · have b0 : 48 ≤ c := by omega
    have HE : Hid (hvI c = (c : Int) - 48) := Lib.hid (by unfold hvI hv; rw [if_pos (by omega)]; simp only; omega)
    have t0 : 48 ≤ (c : Int) := by omega
    have t1 : (c : Int) ≤ 57 := by omega
    have t2 : decide (97 ≤ (c : Int)) = false := decide_eq_false (by omega)
    have t3 : (c : Int) ≤ 102 := by omega
    have t4 : decide (65 ≤ (c : Int)) = false := decide_eq_false (by omega)
    have t5 : (c : Int) ≤ 70 := by omega
    go_enter Tryf.func30, Tryf.ntmps30
    go_wp2
    go_ret
    exact ⟨by rw [HE.out]; go_num, rfl⟩
  by_cases b1 : c < 65
  · have b0 : 58 ≤ c := by omega
    have HE : Hid (hvI c = -1) := Lib.hid (by unfold hvI hv; rw [if_neg (by omega), if_neg (by omega), if_neg (by omega)])
    have t0 : 48 ≤ (c : Int) := by omega
    have t1 : decide ((c : Int) ≤ 57) = false := decide_eq_false (by omega)
    have t2 : decide (97 ≤ (c : Int)) = false := decide_eq_false (by omega)
    have t3 : (c : Int) ≤ 102 := by omega
    have t4 : decide (65 ≤ (c : Int)) = false := decide_eq_false (by omega)
    have t5 : (c : Int) ≤ 70 := by omega
    go_enter Tryf.func30, Tryf.ntmps30
    go_wp2
    go_ret
    exact ⟨by rw [HE.out]; rfl, rfl⟩
  by_cases b1 : c < 71
  · have b0 : 65 ≤ c := by omega
    have HE : Hid (hvI c = (c : Int) - 55) := Lib.hid (by unfold hvI hv; rw [if_neg (by omega), if_neg (by omega), if_pos (by omega)]; simp only; omega)
    have t0 : 48 ≤ (c : Int) := by omega
    have t1 : decide ((c : Int) ≤ 57) = false := decide_eq_false (by omega)
    have t2 : decide (97 ≤ (c : Int)) = false := decide_eq_false (by omega)
    have t3 : (c : Int) ≤ 102 := by omega
    have t4 : 65 ≤ (c : Int) := by omega
    have t5 : (c : Int) ≤ 70 := by omega
    go_enter Tryf.func30, Tryf.ntmps30
    go_wp2
    go_ret
    exact ⟨by rw [HE.out]; go_num, rfl⟩
  by_cases b1 : c < 97
  · have b0 : 71 ≤ c := by omega
    have HE : Hid (hvI c = -1) := Lib.hid (by unfold hvI hv; rw [if_neg (by omega), if_neg (by omega), if_neg (by omega)])
    have t0 : 48 ≤ (c : Int) := by omega
    have t1 : decide ((c : Int) ≤ 57) = false := decide_eq_false (by omega)
    have t2 : decide (97 ≤ (c : Int)) = false := decide_eq_false (by omega)
    have t3 : (c : Int) ≤ 102 := by omega
    have t4 : 65 ≤ (c : Int) := by omega
    have t5 : decide ((c : Int) ≤ 70) = false := decide_eq_false (by omega)
    go_enter Tryf.func30, Tryf.ntmps30
    go_wp2
    go_ret
    exact ⟨by rw [HE.out]; rfl, rfl⟩
  by_cases b1 : c < 103
  · have b0 : 97 ≤ c := by omega
    have HE : Hid (hvI c = (c : Int) - 87) := Lib.hid (by unfold hvI hv; rw [if_neg (by omega), if_pos (by omega)]; simp only; omega)
    have t0 : 48 ≤ (c : Int) := by omega
    have t1 : decide ((c : Int) ≤ 57) = false := decide_eq_false (by omega)
    have t2 : 97 ≤ (c : Int) := by omega
    have t3 : (c : Int) ≤ 102 := by omega
    have t4 : 65 ≤ (c : Int) := by omega
    have t5 : decide ((c : Int) ≤ 70) = false := decide_eq_false (by omega)
    go_enter Tryf.func30, Tryf.ntmps30
    go_wp2
    go_ret
    exact ⟨by rw [HE.out]; go_num, rfl⟩
  have b0 : 103 ≤ c := by omega
  have b1 : c < 256 := hc
  have HE : Hid (hvI c = -1) := Lib.hid (by unfold hvI hv; rw [if_neg (by omega), if_neg (by omega), if_neg (by omega)])
  have t0 : 48 ≤ (c : Int) := by omega
  have t1 : decide ((c : Int) ≤ 57) = false := decide_eq_false (by omega)
  have t2 : 97 ≤ (c : Int) := by omega
  have t3 : decide ((c : Int) ≤ 102) = false := decide_eq_false (by omega)
  have t4 : 65 ≤ (c : Int) := by omega
  have t5 : decide ((c : Int) ≤ 70) = false := decide_eq_false (by omega)
  go_enter Tryf.func30, Tryf.ntmps30
  go_wp2
  go_ret
  exact ⟨by rw [HE.out]; rfl, rfl⟩
/-- The first j digits. -/
def hpre (s : ByteArray) (i : Nat) : Nat → Option Nat
  | 0 => some 0
  | j + 1 => match hpre s i j, hv (byteAt s (i + j)) with | some a, some b => some (a * 16 + b) | _, _ => none
theorem hpre_4 (s : ByteArray) (i : Nat) : hpre s i 4 = h4 s i := by
  unfold h4
  simp only [hpre, Nat.add_zero]
  cases hv (byteAt s i) <;> cases hv (byteAt s (i + 1)) <;> cases hv (byteAt s (i + 2)) <;> cases hv (byteAt s (i + 3)) <;> simp
theorem hpre_none (s : ByteArray) (i : Nat) : ∀ (k j : Nat), hpre s i j = none → hpre s i (j + k) = none
  | 0, _, h => h
  | k + 1, j, h => by
    rw [← Nat.add_assoc]
    simp only [hpre, hpre_none s i k j h]
def h4I (s : ByteArray) (i : Nat) : Int := match h4 s i with | some v => v | none => -1
theorem hpre_lt (s : ByteArray) (i : Nat) : ∀ (j v : Nat), hpre s i j = some v → v < 16 ^ j
  | 0, v, h => by simp only [hpre] at h; injection h with h; omega
  | j + 1, v, h => by
    simp only [hpre] at h
    cases h1 : hpre s i j with
    | none => rw [h1] at h; cases h
    | some a =>
      cases h2 : hv (byteAt s (i + j)) with
      | none => rw [h1, h2] at h; cases h
      | some b =>
        rw [h1, h2] at h
        injection h with h
        have q1 := hpre_lt s i j a h1
        have q2 := hv_lt h2
        rw [Nat.pow_succ]
        omega

set_option maxHeartbeats 800000 in
theorem hex4 (s : ByteArray) (i : Nat) (z : Int) (hz : z = (i : Int)) (hi : i + 4 ≤ s.size) (hs : s.size ≤ 4000000) (w : World) : Calls Tryf.prog 21 #[.string s, .int .i64 z] w fun e w' => e = .returned (.int .i64 (h4I s i)) ∧ w = w' := by
  subst hz
  go_enter Tryf.func21, Tryf.ntmps21
  go_wp2
  go_loop [5, 6] (fun v j => ∃ k a : Nat, k ≤ 4 ∧ j = .int .i64 (k : Int) ∧ v = .int .i64 (a : Int) ∧ Hid (hpre s i k = some a) ∧ a < 65536) (fun _ j => 4 - (intOf j).toNat)
  case atStart => exact ⟨0, 0, by omega, rfl, rfl, Lib.hid rfl, by omega⟩
  case round =>
    obtain ⟨k, a, hk, rfl, rfl, HP, ha⟩ := hrel
    by_cases hlt : k < 4
    · have q : (k : Int) < 4 := by omega
      have hin : i + k < s.size := by omega
      have hin' : (i : Int) + (k : Int) < (s.size : Int) := by omega
      have hx : ((i : Int) + (k : Int)).toNat = i + k := by omega
      have ha2 : a < 4096 := by
        have := hpre_lt s i k a HP.out
        have h3 : 16 ^ k ≤ 16 ^ 3 := Nat.pow_le_pow_right (by omega) (by omega)
        omega
      have hB : ((s[i + k]'hin).toNat : Nat) = byteAt s (i + k) := byte_of_get s (i + k) hin
      have hb256 : byteAt s (i + k) < 256 := by rw [← hB]; exact UInt8.toNat_lt _
      cases hv' : hv (byteAt s (i + k)) with
      | none =>
        have HV : Hid (hvI (byteAt s (i + k)) = -1) := Lib.hid (by unfold hvI; rw [hv'])
        have HE : Hid (h4I s i = -1) := Lib.hid (by
          unfold h4I
          rw [← hpre_4, show 4 = k + 1 + (3 - k) by omega, hpre_none s i (3 - k) (k + 1) (by simp only [hpre, HP.out, hv'])])
        clear hv' HP
        go_wp2_with (go_at_call 30; (try rw [hB]); refine (hexVal _ hb256 _).mono ?_; rw [HV.out]; rintro e w' ⟨rfl, rfl⟩)
        go_ret
        exact ⟨by rw [HE.out]; rfl, rfl⟩
      | some b =>
        have HV : Hid (hvI (byteAt s (i + k)) = (b : Int)) := Lib.hid (by unfold hvI; rw [hv'])
        have hb := hv_lt hv'
        have HP2 : Hid (hpre s i (k + 1) = some (a * 16 + b)) := Lib.hid (by simp only [hpre, HP.out, hv'])
        have qb : ¬ (b : Int) < 0 := by omega
        clear hv' HP
        go_wp2_with (go_at_call 30; (try rw [hB]); refine (hexVal _ hb256 _).mono ?_; rw [HV.out]; rintro e w' ⟨rfl, rfl⟩)
        go_round
        case rel => exact ⟨k + 1, a * 16 + b, by omega, by go_num, by go_num, HP2, by omega⟩
        case measure => simp [intOf]; omega
    · obtain rfl : k = 4 := by omega
      have HE : Hid (h4I s i = (a : Int)) := Lib.hid (by unfold h4I; rw [← hpre_4, HP.out])
      clear HP hlt
      go_wp2
      go_ret
      exact ⟨by rw [HE.out]; rfl, rfl⟩

set_option maxHeartbeats 3200000 in
set_option maxRecDepth 100000 in
theorem validEsc (s : ByteArray) (hs : s.size ≤ 4000000) (w : World) : Calls Tryf.prog 12 #[.string s] w fun e w' => e = .returned (.bool (okAt s 0)) ∧ w = w' := by
  go_enter Tryf.func12, Tryf.ntmps12
  go_wp2
  go_loop [3] (fun v => ∃ i : Nat, v = .int .i64 (i : Int) ∧ i ≤ s.size ∧ Hid (okAt s 0 = okAt s i)) (fun v => s.size - (intOf v).toNat)
  case atStart => exact ⟨0, rfl, by omega, Lib.hid rfl⟩
  case round =>
    obtain ⟨i, rfl, hi, HOK⟩ := hrel
    by_cases hlt : i < s.size
    · have hb0 : ((s[i]'hlt).toNat : Nat) = byteAt s i := byte_of_get s i hlt
      by_cases h92 : byteAt s i = 92
      · have f0 : (((s[i]'hlt).toNat : Int) != 92) = false := by rw [bne_eq_false_iff_eq]; omega
        clear hb0
        by_cases h1 : i + 1 < s.size
        · have q1 : ¬ (s.size : Int) ≤ (i : Int) + 1 := by omega
          have q1' : (i : Int) + 1 < (s.size : Int) := by omega
          have hb1 : ((s[i + 1]'h1).toNat : Nat) = byteAt s (i + 1) := byte_of_get s (i + 1) h1
          by_cases c34 : byteAt s (i + 1) = 34
          · have HN : Hid (okAt s 0 = okAt s (i + 2)) := Lib.hid (HOK.out.trans (ok_next hlt (esc_simple h92 h1 (by rw [c34]; decide)) (by omega)))
            have f34 : (((s[i + 1]'h1).toNat : Int) == 34) = true := beq_iff_eq.2 (by omega)
            clear c34 hb1 h92
            go_wp2
            go_round
            case rel => exact ⟨i + 2, by go_num, by omega, HN⟩
            case measure => simp [intOf]; omega
          by_cases c39 : byteAt s (i + 1) = 39
          · have HN : Hid (okAt s 0 = okAt s (i + 2)) := Lib.hid (HOK.out.trans (ok_next hlt (esc_simple h92 h1 (by rw [c39]; decide)) (by omega)))
            have f34 : (((s[i + 1]'h1).toNat : Int) == 34) = false := beq_eq_false_iff_ne.2 (by omega)
            have f39 : (((s[i + 1]'h1).toNat : Int) == 39) = true := beq_iff_eq.2 (by omega)
            clear c34 c39 hb1 h92
            go_wp2
            go_round
            case rel => exact ⟨i + 2, by go_num, by omega, HN⟩
            case measure => simp [intOf]; omega
          by_cases c92 : byteAt s (i + 1) = 92
          · have HN : Hid (okAt s 0 = okAt s (i + 2)) := Lib.hid (HOK.out.trans (ok_next hlt (esc_simple h92 h1 (by rw [c92]; decide)) (by omega)))
            have f34 : (((s[i + 1]'h1).toNat : Int) == 34) = false := beq_eq_false_iff_ne.2 (by omega)
            have f39 : (((s[i + 1]'h1).toNat : Int) == 39) = false := beq_eq_false_iff_ne.2 (by omega)
            have f92 : (((s[i + 1]'h1).toNat : Int) == 92) = true := beq_iff_eq.2 (by omega)
            clear c34 c39 c92 hb1 h92
            go_wp2
            go_round
            case rel => exact ⟨i + 2, by go_num, by omega, HN⟩
            case measure => simp [intOf]; omega
          by_cases c47 : byteAt s (i + 1) = 47
          · have HN : Hid (okAt s 0 = okAt s (i + 2)) := Lib.hid (HOK.out.trans (ok_next hlt (esc_simple h92 h1 (by rw [c47]; decide)) (by omega)))
            have f34 : (((s[i + 1]'h1).toNat : Int) == 34) = false := beq_eq_false_iff_ne.2 (by omega)
            have f39 : (((s[i + 1]'h1).toNat : Int) == 39) = false := beq_eq_false_iff_ne.2 (by omega)
            have f92 : (((s[i + 1]'h1).toNat : Int) == 92) = false := beq_eq_false_iff_ne.2 (by omega)
            have f47 : (((s[i + 1]'h1).toNat : Int) == 47) = true := beq_iff_eq.2 (by omega)
            clear c34 c39 c92 c47 hb1 h92
            go_wp2
            go_round
            case rel => exact ⟨i + 2, by go_num, by omega, HN⟩
            case measure => simp [intOf]; omega
          by_cases c98 : byteAt s (i + 1) = 98
          · have HN : Hid (okAt s 0 = okAt s (i + 2)) := Lib.hid (HOK.out.trans (ok_next hlt (esc_simple h92 h1 (by rw [c98]; decide)) (by omega)))
            have f34 : (((s[i + 1]'h1).toNat : Int) == 34) = false := beq_eq_false_iff_ne.2 (by omega)
            have f39 : (((s[i + 1]'h1).toNat : Int) == 39) = false := beq_eq_false_iff_ne.2 (by omega)
            have f92 : (((s[i + 1]'h1).toNat : Int) == 92) = false := beq_eq_false_iff_ne.2 (by omega)
            have f47 : (((s[i + 1]'h1).toNat : Int) == 47) = false := beq_eq_false_iff_ne.2 (by omega)
            have f98 : (((s[i + 1]'h1).toNat : Int) == 98) = true := beq_iff_eq.2 (by omega)
            clear c34 c39 c92 c47 c98 hb1 h92
            go_wp2
            go_round
            case rel => exact ⟨i + 2, by go_num, by omega, HN⟩
            case measure => simp [intOf]; omega
          by_cases c102 : byteAt s (i + 1) = 102
          · have HN : Hid (okAt s 0 = okAt s (i + 2)) := Lib.hid (HOK.out.trans (ok_next hlt (esc_simple h92 h1 (by rw [c102]; decide)) (by omega)))
            have f34 : (((s[i + 1]'h1).toNat : Int) == 34) = false := beq_eq_false_iff_ne.2 (by omega)
            have f39 : (((s[i + 1]'h1).toNat : Int) == 39) = false := beq_eq_false_iff_ne.2 (by omega)
            have f92 : (((s[i + 1]'h1).toNat : Int) == 92) = false := beq_eq_false_iff_ne.2 (by omega)
            have f47 : (((s[i + 1]'h1).toNat : Int) == 47) = false := beq_eq_false_iff_ne.2 (by omega)
            have f98 : (((s[i + 1]'h1).toNat : Int) == 98) = false := beq_eq_false_iff_ne.2 (by omega)
            have f102 : (((s[i + 1]'h1).toNat : Int) == 102) = true := beq_iff_eq.2 (by omega)
            clear c34 c39 c92 c47 c98 c102 hb1 h92
            go_wp2
            go_round
            case rel => exact ⟨i + 2, by go_num, by omega, HN⟩
            case measure => simp [intOf]; omega
          by_cases c110 : byteAt s (i + 1) = 110
          · have HN : Hid (okAt s 0 = okAt s (i + 2)) := Lib.hid (HOK.out.trans (ok_next hlt (esc_simple h92 h1 (by rw [c110]; decide)) (by omega)))
            have f34 : (((s[i + 1]'h1).toNat : Int) == 34) = false := beq_eq_false_iff_ne.2 (by omega)
            have f39 : (((s[i + 1]'h1).toNat : Int) == 39) = false := beq_eq_false_iff_ne.2 (by omega)
            have f92 : (((s[i + 1]'h1).toNat : Int) == 92) = false := beq_eq_false_iff_ne.2 (by omega)
            have f47 : (((s[i + 1]'h1).toNat : Int) == 47) = false := beq_eq_false_iff_ne.2 (by omega)
            have f98 : (((s[i + 1]'h1).toNat : Int) == 98) = false := beq_eq_false_iff_ne.2 (by omega)
            have f102 : (((s[i + 1]'h1).toNat : Int) == 102) = false := beq_eq_false_iff_ne.2 (by omega)
            have f110 : (((s[i + 1]'h1).toNat : Int) == 110) = true := beq_iff_eq.2 (by omega)
            clear c34 c39 c92 c47 c98 c102 c110 hb1 h92
            go_wp2
            go_round
            case rel => exact ⟨i + 2, by go_num, by omega, HN⟩
            case measure => simp [intOf]; omega
          by_cases c114 : byteAt s (i + 1) = 114
          · have HN : Hid (okAt s 0 = okAt s (i + 2)) := Lib.hid (HOK.out.trans (ok_next hlt (esc_simple h92 h1 (by rw [c114]; decide)) (by omega)))
            have f34 : (((s[i + 1]'h1).toNat : Int) == 34) = false := beq_eq_false_iff_ne.2 (by omega)
            have f39 : (((s[i + 1]'h1).toNat : Int) == 39) = false := beq_eq_false_iff_ne.2 (by omega)
            have f92 : (((s[i + 1]'h1).toNat : Int) == 92) = false := beq_eq_false_iff_ne.2 (by omega)
            have f47 : (((s[i + 1]'h1).toNat : Int) == 47) = false := beq_eq_false_iff_ne.2 (by omega)
            have f98 : (((s[i + 1]'h1).toNat : Int) == 98) = false := beq_eq_false_iff_ne.2 (by omega)
            have f102 : (((s[i + 1]'h1).toNat : Int) == 102) = false := beq_eq_false_iff_ne.2 (by omega)
            have f110 : (((s[i + 1]'h1).toNat : Int) == 110) = false := beq_eq_false_iff_ne.2 (by omega)
            have f114 : (((s[i + 1]'h1).toNat : Int) == 114) = true := beq_iff_eq.2 (by omega)
            clear c34 c39 c92 c47 c98 c102 c110 c114 hb1 h92
            go_wp2
            go_round
            case rel => exact ⟨i + 2, by go_num, by omega, HN⟩
            case measure => simp [intOf]; omega
          by_cases c116 : byteAt s (i + 1) = 116
          · have HN : Hid (okAt s 0 = okAt s (i + 2)) := Lib.hid (HOK.out.trans (ok_next hlt (esc_simple h92 h1 (by rw [c116]; decide)) (by omega)))
            have f34 : (((s[i + 1]'h1).toNat : Int) == 34) = false := beq_eq_false_iff_ne.2 (by omega)
            have f39 : (((s[i + 1]'h1).toNat : Int) == 39) = false := beq_eq_false_iff_ne.2 (by omega)
            have f92 : (((s[i + 1]'h1).toNat : Int) == 92) = false := beq_eq_false_iff_ne.2 (by omega)
            have f47 : (((s[i + 1]'h1).toNat : Int) == 47) = false := beq_eq_false_iff_ne.2 (by omega)
            have f98 : (((s[i + 1]'h1).toNat : Int) == 98) = false := beq_eq_false_iff_ne.2 (by omega)
            have f102 : (((s[i + 1]'h1).toNat : Int) == 102) = false := beq_eq_false_iff_ne.2 (by omega)
            have f110 : (((s[i + 1]'h1).toNat : Int) == 110) = false := beq_eq_false_iff_ne.2 (by omega)
            have f114 : (((s[i + 1]'h1).toNat : Int) == 114) = false := beq_eq_false_iff_ne.2 (by omega)
            have f116 : (((s[i + 1]'h1).toNat : Int) == 116) = true := beq_iff_eq.2 (by omega)
            clear c34 c39 c92 c47 c98 c102 c110 c114 c116 hb1 h92
            go_wp2
            go_round
            case rel => exact ⟨i + 2, by go_num, by omega, HN⟩
            case measure => simp [intOf]; omega
          have hns : simpleEsc (byteAt s (i + 1)) = false := by simp [simpleEsc, c34, c39, c92, c47, c98, c102, c110, c114, c116]
          have f34 : (((s[i + 1]'h1).toNat : Int) == 34) = false := beq_eq_false_iff_ne.2 (by omega)
          have f39 : (((s[i + 1]'h1).toNat : Int) == 39) = false := beq_eq_false_iff_ne.2 (by omega)
          have f92 : (((s[i + 1]'h1).toNat : Int) == 92) = false := beq_eq_false_iff_ne.2 (by omega)
          have f47 : (((s[i + 1]'h1).toNat : Int) == 47) = false := beq_eq_false_iff_ne.2 (by omega)
          have f98 : (((s[i + 1]'h1).toNat : Int) == 98) = false := beq_eq_false_iff_ne.2 (by omega)
          have f102 : (((s[i + 1]'h1).toNat : Int) == 102) = false := beq_eq_false_iff_ne.2 (by omega)
          have f110 : (((s[i + 1]'h1).toNat : Int) == 110) = false := beq_eq_false_iff_ne.2 (by omega)
          have f114 : (((s[i + 1]'h1).toNat : Int) == 114) = false := beq_eq_false_iff_ne.2 (by omega)
          have f116 : (((s[i + 1]'h1).toNat : Int) == 116) = false := beq_eq_false_iff_ne.2 (by omega)
          by_cases c117 : byteAt s (i + 1) = 117
          · have f117 : (((s[i + 1]'h1).toNat : Int) != 117) = false := by rw [bne_eq_false_iff_eq]; omega
            have HU := Lib.hid (esc_u h92 h1 c117)
            clear c34 c39 c92 c47 c98 c102 c110 c114 c116 hb1 h92 hns c117
            by_cases h6 : s.size < i + 6
            · have q6 : (s.size : Int) < (i : Int) + 6 := by omega
              have HE : Hid (okAt s 0 = false) := Lib.hid (HOK.out.trans (ok_zero hlt (by rw [HU.out, if_pos h6])))
              clear HU HOK
              go_wp2
              go_ret
              exact ⟨by rw [HE.out]; rfl, rfl⟩
            · have q6 : ¬ (s.size : Int) < (i : Int) + 6 := by omega
              cases hh : h4 s (i + 2) with
              | none =>
                have HH : Hid (h4I s (i + 2) = -1) := Lib.hid (by unfold h4I; rw [hh])
                have HE : Hid (okAt s 0 = false) := Lib.hid (HOK.out.trans (ok_zero hlt (by rw [HU.out, if_neg h6, hh])))
                clear HU HOK hh
                go_wp2_with (fail)
                refine (hex4 s (i + 2) _ (by omega) (by omega) hs _).mono ?_
                rw [HH.out]
                rintro e w' ⟨rfl, rfl⟩
                go_wp2_with (fail)
                go_ret
                exact ⟨by rw [HE.out]; rfl, rfl⟩
              | some v =>
                obtain ⟨z, hz⟩ : ∃ z : Int, z = (v : Int) := ⟨_, rfl⟩
                have HH : Hid (h4I s (i + 2) = z) := Lib.hid (by unfold h4I; rw [hh, hz])
                have hv0 : ¬ z < 0 := by omega
                have hvl : v < 65536 := by
                  have := hpre_lt s (i + 2) 4 v (by rw [hpre_4]; exact hh)
                  exact this
                by_cases hs1 : 55296 ≤ v
                · have p1 : (55296 : Int) ≤ z := by omega
                  by_cases hs2 : v < 57344
                  · have p2 : z < 57344 := by omega
                    by_cases h12 : s.size < i + 12
                    · have q12 : (s.size : Int) < (i : Int) + 12 := by omega
                      have q12' : (s.size : Int) < (i : Int) + 6 + 6 := by omega
                      have HE : Hid (okAt s 0 = false) := Lib.hid (HOK.out.trans (ok_zero hlt (by rw [HU.out, if_neg h6, hh]; simp only; rw [if_pos ⟨hs1, hs2⟩, if_pos h12])))
                      clear HU HOK hh hs1 hs2 hvl h6 h12 hz
                      go_wp2_with (fail)
                      refine (hex4 s (i + 2) _ (by omega) (by omega) hs _).mono ?_
                      rw [HH.out]
                      rintro e w' ⟨rfl, rfl⟩
                      go_wp2_with (fail)
                      go_ret
                      exact ⟨by rw [HE.out]; rfl, rfl⟩
                    · have q12 : ¬ (s.size : Int) < (i : Int) + 12 := by omega
                      have q12' : ¬ (s.size : Int) < (i : Int) + 6 + 6 := by omega
                      have hl6 : i + 6 < s.size := by omega
                      have hl7 : i + 7 < s.size := by omega
                      have hb6 : ((s[i + 6]'hl6).toNat : Nat) = byteAt s (i + 6) := byte_of_get s (i + 6) hl6
                      have hb7 : ((s[i + 7]'hl7).toNat : Nat) = byteAt s (i + 7) := byte_of_get s (i + 7) hl7
                      by_cases h6b : byteAt s (i + 6) = 92
                      · have g6 : (((s[i + 6]'hl6).toNat : Int) != 92) = false := by rw [bne_eq_false_iff_eq]; omega
                        by_cases h7b : byteAt s (i + 7) = 117
                        · have g7 : (((s[i + 7]'hl7).toNat : Int) != 117) = false := by rw [bne_eq_false_iff_eq]; omega
                          cases hh2 : h4 s (i + 8) with
                          | none =>
                            have HH2 : Hid (h4I s (i + 8) = -1) := Lib.hid (by unfold h4I; rw [hh2])
                            have HE : Hid (okAt s 0 = false) := Lib.hid (HOK.out.trans (ok_zero hlt (by rw [HU.out, if_neg h6, hh]; simp only; rw [if_pos ⟨hs1, hs2⟩, if_neg h12, if_neg (by omega), hh2])))
                            clear HU HOK hh hh2 hb6 hb7 h6b h7b hs1 hs2 hvl h6 h12 hz
                            go_wp2_with (fail)
                            refine (hex4 s (i + 2) _ (by omega) (by omega) hs _).mono ?_
                            rw [HH.out]
                            rintro e w' ⟨rfl, rfl⟩
                            go_wp2_with (fail)
                            refine (hex4 s (i + 8) _ (by omega) (by omega) hs _).mono ?_
                            rw [HH2.out]
                            rintro e w' ⟨rfl, rfl⟩
                            go_wp2_with (fail)
                            go_ret
                            exact ⟨by rw [HE.out]; rfl, rfl⟩
                          | some u =>
                            have HH2 : Hid (h4I s (i + 8) = (u : Int)) := Lib.hid (by unfold h4I; rw [hh2])
                            have hu0 : ¬ (u : Int) < 0 := by omega
                            have HN : Hid (okAt s 0 = okAt s (i + 12)) := Lib.hid (HOK.out.trans (ok_next hlt (by rw [HU.out, if_neg h6, hh]; simp only; rw [if_pos ⟨hs1, hs2⟩, if_neg h12, if_neg (by omega), hh2]) (by omega)))
                            clear HU HOK hh hh2 hb6 hb7 h6b h7b hs1 hs2 hvl h6 h12 hz
                            go_wp2_with (fail)
                            refine (hex4 s (i + 2) _ (by omega) (by omega) hs _).mono ?_
                            rw [HH.out]
                            rintro e w' ⟨rfl, rfl⟩
                            go_wp2_with (fail)
                            refine (hex4 s (i + 8) _ (by omega) (by omega) hs _).mono ?_
                            rw [HH2.out]
                            rintro e w' ⟨rfl, rfl⟩
                            go_wp2_with (fail)
                            go_round
                            case rel => exact ⟨i + 12, by go_num, by omega, HN⟩
                            case measure => simp [intOf]; omega
                        · have g7 : (((s[i + 7]'hl7).toNat : Int) != 117) = true := by rw [bne_iff_ne]; omega
                          have HE : Hid (okAt s 0 = false) := Lib.hid (HOK.out.trans (ok_zero hlt (by rw [HU.out, if_neg h6, hh]; simp only; rw [if_pos ⟨hs1, hs2⟩, if_neg h12, if_pos (by omega)])))
                          clear HU HOK hh hb6 hb7 h6b h7b hs1 hs2 hvl h6 h12 hz
                          go_wp2_with (fail)
                          refine (hex4 s (i + 2) _ (by omega) (by omega) hs _).mono ?_
                          rw [HH.out]
                          rintro e w' ⟨rfl, rfl⟩
                          go_wp2_with (fail)
                          go_ret
                          exact ⟨by rw [HE.out]; rfl, rfl⟩
                      · have g6 : (((s[i + 6]'hl6).toNat : Int) != 92) = true := by rw [bne_iff_ne]; omega
                        have HE : Hid (okAt s 0 = false) := Lib.hid (HOK.out.trans (ok_zero hlt (by rw [HU.out, if_neg h6, hh]; simp only; rw [if_pos ⟨hs1, hs2⟩, if_neg h12, if_pos (by omega)])))
                        clear HU HOK hh hb6 hb7 h6b hs1 hs2 hvl h6 h12 hz
                        go_wp2_with (fail)
                        refine (hex4 s (i + 2) _ (by omega) (by omega) hs _).mono ?_
                        rw [HH.out]
                        rintro e w' ⟨rfl, rfl⟩
                        go_wp2_with (fail)
                        go_ret
                        exact ⟨by rw [HE.out]; rfl, rfl⟩
                  · have p2 : decide (z < 57344) = false := decide_eq_false (by omega)
                    have HN : Hid (okAt s 0 = okAt s (i + 6)) := Lib.hid (HOK.out.trans (ok_next hlt (by rw [HU.out, if_neg h6, hh]; simp only; rw [if_neg (by omega)]) (by omega)))
                    clear HU HOK hh hvl h6 hz hs1 hs2
                    go_wp2_with (fail)
                    refine (hex4 s (i + 2) _ (by omega) (by omega) hs _).mono ?_
                    rw [HH.out]
                    rintro e w' ⟨rfl, rfl⟩
                    go_wp2_with (fail)
                    go_round
                    case rel => exact ⟨i + 6, by go_num, by omega, HN⟩
                    case measure => simp [intOf]; omega
                · have p1 : decide ((55296 : Int) ≤ z) = false := decide_eq_false (by omega)
                  have HN : Hid (okAt s 0 = okAt s (i + 6)) := Lib.hid (HOK.out.trans (ok_next hlt (by rw [HU.out, if_neg h6, hh]; simp only; rw [if_neg (by omega)]) (by omega)))
                  clear HU HOK hh hvl h6 hz hs1
                  go_wp2_with (fail)
                  refine (hex4 s (i + 2) _ (by omega) (by omega) hs _).mono ?_
                  rw [HH.out]
                  rintro e w' ⟨rfl, rfl⟩
                  go_wp2_with (fail)
                  go_round
                  case rel => exact ⟨i + 6, by go_num, by omega, HN⟩
                  case measure => simp [intOf]; omega
          · have f117 : (((s[i + 1]'h1).toNat : Int) != 117) = true := by rw [bne_iff_ne]; omega
            have HE : Hid (okAt s 0 = false) := Lib.hid (HOK.out.trans (ok_zero hlt (esc_unknown h92 h1 hns c117)))
            clear c34 c39 c92 c47 c98 c102 c110 c114 c116 hb1 h92 hns c117
            clear HOK
            go_wp2
            go_ret
            exact ⟨by rw [HE.out]; rfl, rfl⟩
        · have q1 : (s.size : Int) ≤ (i : Int) + 1 := by omega
          have HE : Hid (okAt s 0 = false) := Lib.hid (HOK.out.trans (ok_zero hlt (esc_trunc h92 (by omega))))
          clear HOK h92
          go_wp2
          go_ret
          exact ⟨by rw [HE.out]; rfl, rfl⟩
      · have f0 : (((s[i]'hlt).toNat : Int) != 92) = true := by rw [bne_iff_ne]; omega
        have HN : Hid (okAt s 0 = okAt s (i + 1)) := Lib.hid (HOK.out.trans (ok_skip 1 i (by omega) (fun j hj => by rw [show i + j = i by omega]; exact h92)))
        clear HOK h92 hb0
        go_wp2
        go_round
        case rel => exact ⟨i + 1, by go_num, by omega, HN⟩
        case measure => simp [intOf]; omega
    · obtain rfl : i = s.size := by omega
      have HE : Hid (okAt s 0 = true) := Lib.hid (by rw [HOK.out]; exact okAt_end (Nat.le_refl _))
      clear HOK hlt
      go_wp2
      go_ret
      exact ⟨by rw [HE.out]; rfl, rfl⟩
/-! ### small helpers -/
set_option maxRecDepth 100000 in
theorem oneSlash (w : World) : Calls Tryf.prog 8 #[] w fun e w' => e = .returned (.string ⟨#[92]⟩) ∧ Below w.heap.size w w' := by
  have kc := Lib.hid (run_convert_bytes_back (P := Tryf.prog) (w.alloc (.cells #[.int .u8 92] 5)) 61 9 5 ⟨w.heap.size, 0, none⟩ 1 [92] Tryf.underlying61 Tryf.underlying5 Tryf.underlying9 (fun j hj => by
    simp only [List.length_cons, List.length_nil] at hj
    obtain rfl : j = 0 := by omega
    exact (cell_of_row _ _ 0 _ _ _ (heap_alloc_new w _)).trans rfl))
  go_enter Tryf.func8, Tryf.ntmps8
  have kc' := kc.out
  simp only [List.length_cons, List.length_nil] at kc'
  go_wp2
  go_ret
  exact ⟨rfl, by refine Below.alloc (Below.refl _ w) (Nat.le_refl _) _⟩
theorem strKind (m : Int) (w : World) (h0 : 0 ≤ m) (h5 : m < 5) : Calls Tryf.prog 11 #[.int .i64 m] w fun e w' => (∃ k l : Int, e = .returned (.tuple #[.int .i64 k, .int .i64 l]) ∧ (m = 0 ∧ k = 15 ∧ l = 0 ∨ m = 1 ∧ k = 14 ∧ l = 1 ∨ m = 2 ∧ k = 13 ∧ l = 2 ∨ m = 3 ∧ k = 16 ∧ l = 3 ∨ m = 4 ∧ k = 17 ∧ l = 4)) ∧ w = w' := by
  have hm : m = 0 ∨ m = 1 ∨ m = 2 ∨ m = 3 ∨ m = 4 := by omega
  clear h0 h5
  rcases hm with rfl | rfl | rfl | rfl | rfl
  all_goals
    go_enter Tryf.func11, Tryf.ntmps11
    go_wp2
    go_ret2
    refine ⟨⟨_, _, rfl, ?_⟩, rfl⟩
    decide
theorem mod5 (c : Int) (w : World) (h0 : -9223372036854775808 ≤ c) (h1 : c ≤ 9223372036854775807) : Calls Tryf.prog 10 #[.int .i64 c, .int .i64 5] w fun e w' => (∃ m : Int, e = .returned (.int .i64 m) ∧ 0 ≤ m ∧ m < 5) ∧ w = w' := by
  have t1 : c.tmod 5 < 5 := Int.tmod_lt_of_pos c (by omega)
  have t0 : -5 < c.tmod 5 := Int.lt_tmod_of_pos c (by omega)
  go_enter Tryf.func10, Tryf.ntmps10
  by_cases q : c.tmod 5 < 0
  · go_wp2
    go_ret
    exact ⟨⟨_, rfl, by omega, by omega⟩, rfl⟩
  · go_wp2
    go_ret
    exact ⟨⟨_, rfl, by omega, by omega⟩, rfl⟩

end Go.Proofs.YtgdlfcgboghadaaFmt
