/-
  zzValidUTF8 answers true only for well-formed UTF-8.
-/
import Derived.Test.YtmieljdnfjpheaaDoorValid
import Derived.Test.YtmieljdnfjpheaaDoorProg
import Derived.WalkKit
import Derived.WalkSpells
import Derived.Lib.Hide
namespace Go.Proofs.YtmieljdnfjpheaaDoor
open Go Go.RowKit

def VPost (s : ByteArray) (w : World) (e : Ending) (w' : World) : Prop := ∃ b : Bool, e = .returned (.bool b) ∧ (b = true → ValidU s) ∧ w = w'
theorem VPost.no (s : ByteArray) (w : World) : VPost s w (.returned (.bool false)) w := ⟨false, rfl, fun h => (by cases h), rfl⟩
/-- What the check knows at the round's head. -/
def VRel (s : ByteArray) (p : Nat) : Prop := ∃ n, p = bpos s n ∧ ∀ m, m < n → good s (bpos s m)
theorem VRel.next {s : ByteArray} {p k : Nat} (h : VRel s p) (hp : p < s.size) (hk : (Utf8.decode s p).2 = k) (hg : good s p) : VRel s (p + k) := by
  obtain ⟨n, rfl, hm⟩ := h
  exact ⟨n + 1, by rw [bpos_next hp, hk], good_next hm hg⟩
theorem VRel.low {s : ByteArray} {p : Nat} (h : VRel s p) (hp : p < s.size) (hl : byteAt s p < 128) : VRel s (p + 1) := h.next hp (by rw [decode_low s p hp hl]) (good_low hp hl)
theorem VRel.done {s : ByteArray} (h : VRel s s.size) : ValidU s := by
  obtain ⟨n, hn, hm⟩ := h
  exact valid_of hn.symm hm
def ContTo (s : ByteArray) (p j : Nat) : Prop := ∀ m, 2 ≤ m → m < j → 128 ≤ byteAt s (p + m) ∧ byteAt s (p + m) ≤ 191
theorem ContTo.start (s : ByteArray) (p : Nat) : ContTo s p 2 := fun m h1 h2 => absurd h1 (by omega)
theorem ContTo.next {s : ByteArray} {p j : Nat} (h : ContTo s p j) (h1 : 128 ≤ byteAt s (p + j)) (h2 : byteAt s (p + j) ≤ 191) : ContTo s p (j + 1) := fun m a b => by
  by_cases hm : m < j
  · exact h m a hm
  · obtain rfl : m = j := by omega
    exact ⟨h1, h2⟩

theorem VRel.two {s : ByteArray} {p : Nat} (h : VRel s p) (hp : p + 1 < s.size) (a1 : 194 ≤ byteAt s p) (a2 : byteAt s p ≤ 223) (b1 : 128 ≤ byteAt s (p + 1)) (b2 : byteAt s (p + 1) ≤ 191) (_hc : ContTo s p 2) : VRel s (p + 2) := by
  have hd : (Utf8.decode s p).2 = 2 := by exact dec2 s p (by omega) (by omega) (by omega) (by omega) (by omega)
  exact h.next (by omega) hd (good_wide (by omega))

theorem VRel.e0 {s : ByteArray} {p : Nat} (h : VRel s p) (hp : p + 2 < s.size) (a1 : 224 ≤ byteAt s p) (a2 : byteAt s p ≤ 224) (b1 : 160 ≤ byteAt s (p + 1)) (b2 : byteAt s (p + 1) ≤ 191) (hc : ContTo s p 3) : VRel s (p + 3) := by
  have hd : (Utf8.decode s p).2 = 3 := by have c2 := hc 2 (by omega) (by omega); exact dec3 s p (by omega) (by omega) (by omega) (by omega) (by omega) (fun _ => by omega) (fun _ => by omega) (c2.1) (c2.2)
  exact h.next (by omega) hd (good_wide (by omega))

theorem VRel.e1 {s : ByteArray} {p : Nat} (h : VRel s p) (hp : p + 2 < s.size) (a1 : 225 ≤ byteAt s p) (a2 : byteAt s p ≤ 236) (b1 : 128 ≤ byteAt s (p + 1)) (b2 : byteAt s (p + 1) ≤ 191) (hc : ContTo s p 3) : VRel s (p + 3) := by
  have hd : (Utf8.decode s p).2 = 3 := by have c2 := hc 2 (by omega) (by omega); exact dec3 s p (by omega) (by omega) (by omega) (by omega) (by omega) (fun _ => by omega) (fun _ => by omega) (c2.1) (c2.2)
  exact h.next (by omega) hd (good_wide (by omega))

theorem VRel.ed {s : ByteArray} {p : Nat} (h : VRel s p) (hp : p + 2 < s.size) (a1 : 237 ≤ byteAt s p) (a2 : byteAt s p ≤ 237) (b1 : 128 ≤ byteAt s (p + 1)) (b2 : byteAt s (p + 1) ≤ 159) (hc : ContTo s p 3) : VRel s (p + 3) := by
  have hd : (Utf8.decode s p).2 = 3 := by have c2 := hc 2 (by omega) (by omega); exact dec3 s p (by omega) (by omega) (by omega) (by omega) (by omega) (fun _ => by omega) (fun _ => by omega) (c2.1) (c2.2)
  exact h.next (by omega) hd (good_wide (by omega))

theorem VRel.ee {s : ByteArray} {p : Nat} (h : VRel s p) (hp : p + 2 < s.size) (a1 : 238 ≤ byteAt s p) (a2 : byteAt s p ≤ 238) (b1 : 128 ≤ byteAt s (p + 1)) (b2 : byteAt s (p + 1) ≤ 191) (hc : ContTo s p 3) : VRel s (p + 3) := by
  have hd : (Utf8.decode s p).2 = 3 := by have c2 := hc 2 (by omega) (by omega); exact dec3 s p (by omega) (by omega) (by omega) (by omega) (by omega) (fun _ => by omega) (fun _ => by omega) (c2.1) (c2.2)
  exact h.next (by omega) hd (good_wide (by omega))

theorem VRel.ef {s : ByteArray} {p : Nat} (h : VRel s p) (hp : p + 2 < s.size) (a1 : 239 ≤ byteAt s p) (a2 : byteAt s p ≤ 239) (b1 : 128 ≤ byteAt s (p + 1)) (b2 : byteAt s (p + 1) ≤ 191) (hc : ContTo s p 3) : VRel s (p + 3) := by
  have hd : (Utf8.decode s p).2 = 3 := by have c2 := hc 2 (by omega) (by omega); exact dec3 s p (by omega) (by omega) (by omega) (by omega) (by omega) (fun _ => by omega) (fun _ => by omega) (c2.1) (c2.2)
  exact h.next (by omega) hd (good_wide (by omega))

theorem VRel.f0 {s : ByteArray} {p : Nat} (h : VRel s p) (hp : p + 3 < s.size) (a1 : 240 ≤ byteAt s p) (a2 : byteAt s p ≤ 240) (b1 : 144 ≤ byteAt s (p + 1)) (b2 : byteAt s (p + 1) ≤ 191) (hc : ContTo s p 4) : VRel s (p + 4) := by
  have hd : (Utf8.decode s p).2 = 4 := by have c2 := hc 2 (by omega) (by omega); have c3 := hc 3 (by omega) (by omega); exact dec4 s p (by omega) (by omega) (by omega) (by omega) (by omega) (fun _ => by omega) (fun _ => by omega) (c2.1) (c2.2) (c3.1) (c3.2)
  exact h.next (by omega) hd (good_wide (by omega))

theorem VRel.f1 {s : ByteArray} {p : Nat} (h : VRel s p) (hp : p + 3 < s.size) (a1 : 241 ≤ byteAt s p) (a2 : byteAt s p ≤ 243) (b1 : 128 ≤ byteAt s (p + 1)) (b2 : byteAt s (p + 1) ≤ 191) (hc : ContTo s p 4) : VRel s (p + 4) := by
  have hd : (Utf8.decode s p).2 = 4 := by have c2 := hc 2 (by omega) (by omega); have c3 := hc 3 (by omega) (by omega); exact dec4 s p (by omega) (by omega) (by omega) (by omega) (by omega) (fun _ => by omega) (fun _ => by omega) (c2.1) (c2.2) (c3.1) (c3.2)
  exact h.next (by omega) hd (good_wide (by omega))

theorem VRel.f4 {s : ByteArray} {p : Nat} (h : VRel s p) (hp : p + 3 < s.size) (a1 : 244 ≤ byteAt s p) (a2 : byteAt s p ≤ 244) (b1 : 128 ≤ byteAt s (p + 1)) (b2 : byteAt s (p + 1) ≤ 143) (hc : ContTo s p 4) : VRel s (p + 4) := by
  have hd : (Utf8.decode s p).2 = 4 := by have c2 := hc 2 (by omega) (by omega); have c3 := hc 3 (by omega) (by omega); exact dec4 s p (by omega) (by omega) (by omega) (by omega) (by omega) (fun _ => by omega) (fun _ => by omega) (c2.1) (c2.2) (c3.1) (c3.2)
  exact h.next (by omega) hd (good_wide (by omega))

set_option maxHeartbeats 6400000 in
set_option maxRecDepth 100000 in
theorem zzValidUTF8 (s : ByteArray) (hs : s.size ≤ 1099511627775) (w : World) : Calls Tryd.prog 12 #[.string s] w (VPost s w) := by
  go_enter Tryd.func12, Tryd.ntmps12
  go_wp2
  go_loop [3] (fun i => ∃ p : Nat, p ≤ s.size ∧ i = .int .i64 p ∧ Hid (VRel s p)) (fun i => s.size - (intOf i).toNat)
  case atStart => exact ⟨0, Nat.zero_le _, rfl, Lib.hid ⟨0, rfl, fun m hm => absurd hm (by omega)⟩⟩
  case round =>
    obtain ⟨p, hp, rfl, HV⟩ := hrel
    by_cases hps : p < s.size
    · have hb0 := byte_of_get s p hps
      by_cases hlow : byteAt s p < 128
      · have hB : ((s[p]'hps).toNat : Int) < 128 := by omega
        have HN := Lib.hid (HV.out.low hps hlow)
        clear hb0 hlow
        go_wp2
        go_round
        case rel => exact ⟨p + 1, by omega, by go_num, HN⟩
        case measure => simp [intOf]; omega
      by_cases h_two : 194 ≤ byteAt s p ∧ byteAt s p ≤ 223
      · obtain ⟨a1, a2⟩ := h_two
        have hB1 : 194 ≤ ((s[p]'hps).toNat : Int) := by omega
        have hB2 : ((s[p]'hps).toNat : Int) ≤ 223 := by omega
        have e0 : decide (((s[p]'hps).toNat : Int) < 128) = false := decide_eq_false (by omega)
        have e1 : decide (194 ≤ ((s[p]'hps).toNat : Int)) = true := decide_eq_true (by omega)
        have e2 : decide (225 ≤ ((s[p]'hps).toNat : Int)) = false := decide_eq_false (by omega)
        have e3 : decide (241 ≤ ((s[p]'hps).toNat : Int)) = false := decide_eq_false (by omega)
        have e4 : decide (((s[p]'hps).toNat : Int) ≤ 223) = true := decide_eq_true (by omega)
        have e5 : decide (((s[p]'hps).toNat : Int) ≤ 236) = true := decide_eq_true (by omega)
        have e6 : decide (((s[p]'hps).toNat : Int) ≤ 243) = true := decide_eq_true (by omega)
        have e7 : (((s[p]'hps).toNat : Int) == 224) = false := beq_eq_false_iff_ne.2 (by omega)
        have e8 : (((s[p]'hps).toNat : Int) == 237) = false := beq_eq_false_iff_ne.2 (by omega)
        have e9 : (((s[p]'hps).toNat : Int) == 240) = false := beq_eq_false_iff_ne.2 (by omega)
        have e10 : (((s[p]'hps).toNat : Int) == 244) = false := beq_eq_false_iff_ne.2 (by omega)
        have e11 : (((s[p]'hps).toNat : Int) == 238) = false := beq_eq_false_iff_ne.2 (by omega)
        have e12 : (((s[p]'hps).toNat : Int) == 239) = false := beq_eq_false_iff_ne.2 (by omega)
        by_cases hsz : p + 1 < s.size
        · have hb1 := byte_of_get s (p + 1) (by omega)
          by_cases hc1 : 128 ≤ byteAt s (p + 1) ∧ byteAt s (p + 1) ≤ 191
          · obtain ⟨b1, b2⟩ := hc1
            have hC1 : 128 ≤ ((s[p + 1]'(by omega)).toNat : Int) := by omega
            have hC2 : ((s[p + 1]'(by omega)).toNat : Int) ≤ 191 := by omega
            have hC3 : decide (((s[p + 1]'(by omega)).toNat : Int) < 128) = false := decide_eq_false (by omega)
            have hC4 : decide (191 < ((s[p + 1]'(by omega)).toNat : Int)) = false := decide_eq_false (by omega)
            have HN := Lib.hid (fun hc => VRel.two HV.out hsz a1 a2 b1 b2 hc)
            clear hb0 hb1 a1 a2 b1 b2 hlow
            go_wp2
            go_loop [8, 9] (fun c k => ∃ (j : Nat) (cv : Int), 2 ≤ j ∧ j ≤ 2 ∧ k = .int .i64 j ∧ c = .int .u8 cv ∧ Hid (ContTo s p j)) (fun _ k => 2 - (intOf k).toNat)
            case atStart => exact ⟨2, _, by omega, by omega, rfl, rfl, Lib.hid (ContTo.start s p)⟩
            case round =>
              obtain ⟨j, cv, hj2, hj, rfl, rfl, HC⟩ := hrel
              by_cases hjn : j < 2
              · exact absurd hjn (by omega)
              · obtain rfl : j = 2 := by omega
                go_wp2
                go_round
                case rel => exact ⟨p + 2, by omega, by go_num, Lib.hid (HN.out HC.out)⟩
                case measure => simp [intOf]; omega
          · have hD : ((s[p + 1]'(by omega)).toNat : Int) < 128 ∨ 191 < ((s[p + 1]'(by omega)).toNat : Int) := by omega
            clear hb0 hb1 hc1 a1 a2 hlow
            rcases hD with hD | hD
            · go_wp2
              all_goals go_ret
              all_goals exact VPost.no s w
            · have hD' : decide (((s[p + 1]'(by omega)).toNat : Int) < 128) = false := decide_eq_false (by omega)
              go_wp2
              all_goals go_ret
              all_goals exact VPost.no s w
        · clear hb0 a1 a2 hlow
          go_wp2
          all_goals go_ret
          all_goals exact VPost.no s w
      by_cases h_e0 : 224 ≤ byteAt s p ∧ byteAt s p ≤ 224
      · obtain ⟨a1, a2⟩ := h_e0
        have hB1 : 224 ≤ ((s[p]'hps).toNat : Int) := by omega
        have hB2 : ((s[p]'hps).toNat : Int) ≤ 224 := by omega
        have e0 : decide (((s[p]'hps).toNat : Int) < 128) = false := decide_eq_false (by omega)
        have e1 : decide (194 ≤ ((s[p]'hps).toNat : Int)) = true := decide_eq_true (by omega)
        have e2 : decide (225 ≤ ((s[p]'hps).toNat : Int)) = false := decide_eq_false (by omega)
        have e3 : decide (241 ≤ ((s[p]'hps).toNat : Int)) = false := decide_eq_false (by omega)
        have e4 : decide (((s[p]'hps).toNat : Int) ≤ 223) = false := decide_eq_false (by omega)
        have e5 : decide (((s[p]'hps).toNat : Int) ≤ 236) = true := decide_eq_true (by omega)
        have e6 : decide (((s[p]'hps).toNat : Int) ≤ 243) = true := decide_eq_true (by omega)
        have e7 : (((s[p]'hps).toNat : Int) == 224) = true := beq_iff_eq.2 (by omega)
        have e8 : (((s[p]'hps).toNat : Int) == 237) = false := beq_eq_false_iff_ne.2 (by omega)
        have e9 : (((s[p]'hps).toNat : Int) == 240) = false := beq_eq_false_iff_ne.2 (by omega)
        have e10 : (((s[p]'hps).toNat : Int) == 244) = false := beq_eq_false_iff_ne.2 (by omega)
        have e11 : (((s[p]'hps).toNat : Int) == 238) = false := beq_eq_false_iff_ne.2 (by omega)
        have e12 : (((s[p]'hps).toNat : Int) == 239) = false := beq_eq_false_iff_ne.2 (by omega)
        by_cases hsz : p + 2 < s.size
        · have hb1 := byte_of_get s (p + 1) (by omega)
          by_cases hc1 : 160 ≤ byteAt s (p + 1) ∧ byteAt s (p + 1) ≤ 191
          · obtain ⟨b1, b2⟩ := hc1
            have hC1 : 160 ≤ ((s[p + 1]'(by omega)).toNat : Int) := by omega
            have hC2 : ((s[p + 1]'(by omega)).toNat : Int) ≤ 191 := by omega
            have hC3 : decide (((s[p + 1]'(by omega)).toNat : Int) < 160) = false := decide_eq_false (by omega)
            have hC4 : decide (191 < ((s[p + 1]'(by omega)).toNat : Int)) = false := decide_eq_false (by omega)
            have HN := Lib.hid (fun hc => VRel.e0 HV.out hsz a1 a2 b1 b2 hc)
            clear hb0 hb1 a1 a2 b1 b2 hlow
            go_wp2
            go_loop [8, 9] (fun c k => ∃ (j : Nat) (cv : Int), 2 ≤ j ∧ j ≤ 3 ∧ k = .int .i64 j ∧ c = .int .u8 cv ∧ Hid (ContTo s p j)) (fun _ k => 3 - (intOf k).toNat)
            case atStart => exact ⟨2, _, by omega, by omega, rfl, rfl, Lib.hid (ContTo.start s p)⟩
            case round =>
              obtain ⟨j, cv, hj2, hj, rfl, rfl, HC⟩ := hrel
              by_cases hjn : j < 3
              · have hbj := byte_of_get s (p + j) (by omega)
                by_cases hcj : 128 ≤ byteAt s (p + j) ∧ byteAt s (p + j) ≤ 191
                · obtain ⟨d1, d2⟩ := hcj
                  have hD1 : 128 ≤ ((s[p + j]'(by omega)).toNat : Int) := by omega
                  have hD2 : ((s[p + j]'(by omega)).toNat : Int) ≤ 191 := by omega
                  have hD3 : decide (((s[p + j]'(by omega)).toNat : Int) < 128) = false := decide_eq_false (by omega)
                  have hD4 : decide (191 < ((s[p + j]'(by omega)).toNat : Int)) = false := decide_eq_false (by omega)
                  have HC2 := Lib.hid (HC.out.next d1 d2)
                  clear hbj d1 d2
                  go_wp2
                  go_round
                  case rel => exact ⟨j + 1, _, by omega, by omega, by go_num, rfl, HC2⟩
                  case measure => simp [intOf]; omega
                · have hD : ((s[p + j]'(by omega)).toNat : Int) < 128 ∨ 191 < ((s[p + j]'(by omega)).toNat : Int) := by omega
                  clear hbj hcj
                  rcases hD with hD | hD
                  · go_wp2
                    all_goals go_ret
                    all_goals exact VPost.no s w
                  · have hD' : decide (((s[p + j]'(by omega)).toNat : Int) < 128) = false := decide_eq_false (by omega)
                    go_wp2
                    all_goals go_ret
                    all_goals exact VPost.no s w
              · obtain rfl : j = 3 := by omega
                go_wp2
                go_round
                case rel => exact ⟨p + 3, by omega, by go_num, Lib.hid (HN.out HC.out)⟩
                case measure => simp [intOf]; omega
          · have hD : ((s[p + 1]'(by omega)).toNat : Int) < 160 ∨ 191 < ((s[p + 1]'(by omega)).toNat : Int) := by omega
            clear hb0 hb1 hc1 a1 a2 hlow
            rcases hD with hD | hD
            · go_wp2
              all_goals go_ret
              all_goals exact VPost.no s w
            · have hD' : decide (((s[p + 1]'(by omega)).toNat : Int) < 160) = false := decide_eq_false (by omega)
              go_wp2
              all_goals go_ret
              all_goals exact VPost.no s w
        · clear hb0 a1 a2 hlow
          go_wp2
          all_goals go_ret
          all_goals exact VPost.no s w
      by_cases h_e1 : 225 ≤ byteAt s p ∧ byteAt s p ≤ 236
      · obtain ⟨a1, a2⟩ := h_e1
        have hB1 : 225 ≤ ((s[p]'hps).toNat : Int) := by omega
        have hB2 : ((s[p]'hps).toNat : Int) ≤ 236 := by omega
        have e0 : decide (((s[p]'hps).toNat : Int) < 128) = false := decide_eq_false (by omega)
        have e1 : decide (194 ≤ ((s[p]'hps).toNat : Int)) = true := decide_eq_true (by omega)
        have e2 : decide (225 ≤ ((s[p]'hps).toNat : Int)) = true := decide_eq_true (by omega)
        have e3 : decide (241 ≤ ((s[p]'hps).toNat : Int)) = false := decide_eq_false (by omega)
        have e4 : decide (((s[p]'hps).toNat : Int) ≤ 223) = false := decide_eq_false (by omega)
        have e5 : decide (((s[p]'hps).toNat : Int) ≤ 236) = true := decide_eq_true (by omega)
        have e6 : decide (((s[p]'hps).toNat : Int) ≤ 243) = true := decide_eq_true (by omega)
        have e7 : (((s[p]'hps).toNat : Int) == 224) = false := beq_eq_false_iff_ne.2 (by omega)
        have e8 : (((s[p]'hps).toNat : Int) == 237) = false := beq_eq_false_iff_ne.2 (by omega)
        have e9 : (((s[p]'hps).toNat : Int) == 240) = false := beq_eq_false_iff_ne.2 (by omega)
        have e10 : (((s[p]'hps).toNat : Int) == 244) = false := beq_eq_false_iff_ne.2 (by omega)
        have e11 : (((s[p]'hps).toNat : Int) == 238) = false := beq_eq_false_iff_ne.2 (by omega)
        have e12 : (((s[p]'hps).toNat : Int) == 239) = false := beq_eq_false_iff_ne.2 (by omega)
        by_cases hsz : p + 2 < s.size
        · have hb1 := byte_of_get s (p + 1) (by omega)
          by_cases hc1 : 128 ≤ byteAt s (p + 1) ∧ byteAt s (p + 1) ≤ 191
          · obtain ⟨b1, b2⟩ := hc1
            have hC1 : 128 ≤ ((s[p + 1]'(by omega)).toNat : Int) := by omega
            have hC2 : ((s[p + 1]'(by omega)).toNat : Int) ≤ 191 := by omega
            have hC3 : decide (((s[p + 1]'(by omega)).toNat : Int) < 128) = false := decide_eq_false (by omega)
            have hC4 : decide (191 < ((s[p + 1]'(by omega)).toNat : Int)) = false := decide_eq_false (by omega)
            have HN := Lib.hid (fun hc => VRel.e1 HV.out hsz a1 a2 b1 b2 hc)
            clear hb0 hb1 a1 a2 b1 b2 hlow
            go_wp2
            go_loop [8, 9] (fun c k => ∃ (j : Nat) (cv : Int), 2 ≤ j ∧ j ≤ 3 ∧ k = .int .i64 j ∧ c = .int .u8 cv ∧ Hid (ContTo s p j)) (fun _ k => 3 - (intOf k).toNat)
            case atStart => exact ⟨2, _, by omega, by omega, rfl, rfl, Lib.hid (ContTo.start s p)⟩
            case round =>
              obtain ⟨j, cv, hj2, hj, rfl, rfl, HC⟩ := hrel
              by_cases hjn : j < 3
              · have hbj := byte_of_get s (p + j) (by omega)
                by_cases hcj : 128 ≤ byteAt s (p + j) ∧ byteAt s (p + j) ≤ 191
                · obtain ⟨d1, d2⟩ := hcj
                  have hD1 : 128 ≤ ((s[p + j]'(by omega)).toNat : Int) := by omega
                  have hD2 : ((s[p + j]'(by omega)).toNat : Int) ≤ 191 := by omega
                  have hD3 : decide (((s[p + j]'(by omega)).toNat : Int) < 128) = false := decide_eq_false (by omega)
                  have hD4 : decide (191 < ((s[p + j]'(by omega)).toNat : Int)) = false := decide_eq_false (by omega)
                  have HC2 := Lib.hid (HC.out.next d1 d2)
                  clear hbj d1 d2
                  go_wp2
                  go_round
                  case rel => exact ⟨j + 1, _, by omega, by omega, by go_num, rfl, HC2⟩
                  case measure => simp [intOf]; omega
                · have hD : ((s[p + j]'(by omega)).toNat : Int) < 128 ∨ 191 < ((s[p + j]'(by omega)).toNat : Int) := by omega
                  clear hbj hcj
                  rcases hD with hD | hD
                  · go_wp2
                    all_goals go_ret
                    all_goals exact VPost.no s w
                  · have hD' : decide (((s[p + j]'(by omega)).toNat : Int) < 128) = false := decide_eq_false (by omega)
                    go_wp2
                    all_goals go_ret
                    all_goals exact VPost.no s w
              · obtain rfl : j = 3 := by omega
                go_wp2
                go_round
                case rel => exact ⟨p + 3, by omega, by go_num, Lib.hid (HN.out HC.out)⟩
                case measure => simp [intOf]; omega
          · have hD : ((s[p + 1]'(by omega)).toNat : Int) < 128 ∨ 191 < ((s[p + 1]'(by omega)).toNat : Int) := by omega
            clear hb0 hb1 hc1 a1 a2 hlow
            rcases hD with hD | hD
            · go_wp2
              all_goals go_ret
              all_goals exact VPost.no s w
            · have hD' : decide (((s[p + 1]'(by omega)).toNat : Int) < 128) = false := decide_eq_false (by omega)
              go_wp2
              all_goals go_ret
              all_goals exact VPost.no s w
        · clear hb0 a1 a2 hlow
          go_wp2
          all_goals go_ret
          all_goals exact VPost.no s w
      by_cases h_ed : 237 ≤ byteAt s p ∧ byteAt s p ≤ 237
      · obtain ⟨a1, a2⟩ := h_ed
        have hB1 : 237 ≤ ((s[p]'hps).toNat : Int) := by omega
        have hB2 : ((s[p]'hps).toNat : Int) ≤ 237 := by omega
        have e0 : decide (((s[p]'hps).toNat : Int) < 128) = false := decide_eq_false (by omega)
        have e1 : decide (194 ≤ ((s[p]'hps).toNat : Int)) = true := decide_eq_true (by omega)
        have e2 : decide (225 ≤ ((s[p]'hps).toNat : Int)) = true := decide_eq_true (by omega)
        have e3 : decide (241 ≤ ((s[p]'hps).toNat : Int)) = false := decide_eq_false (by omega)
        have e4 : decide (((s[p]'hps).toNat : Int) ≤ 223) = false := decide_eq_false (by omega)
        have e5 : decide (((s[p]'hps).toNat : Int) ≤ 236) = false := decide_eq_false (by omega)
        have e6 : decide (((s[p]'hps).toNat : Int) ≤ 243) = true := decide_eq_true (by omega)
        have e7 : (((s[p]'hps).toNat : Int) == 224) = false := beq_eq_false_iff_ne.2 (by omega)
        have e8 : (((s[p]'hps).toNat : Int) == 237) = true := beq_iff_eq.2 (by omega)
        have e9 : (((s[p]'hps).toNat : Int) == 240) = false := beq_eq_false_iff_ne.2 (by omega)
        have e10 : (((s[p]'hps).toNat : Int) == 244) = false := beq_eq_false_iff_ne.2 (by omega)
        have e11 : (((s[p]'hps).toNat : Int) == 238) = false := beq_eq_false_iff_ne.2 (by omega)
        have e12 : (((s[p]'hps).toNat : Int) == 239) = false := beq_eq_false_iff_ne.2 (by omega)
        by_cases hsz : p + 2 < s.size
        · have hb1 := byte_of_get s (p + 1) (by omega)
          by_cases hc1 : 128 ≤ byteAt s (p + 1) ∧ byteAt s (p + 1) ≤ 159
          · obtain ⟨b1, b2⟩ := hc1
            have hC1 : 128 ≤ ((s[p + 1]'(by omega)).toNat : Int) := by omega
            have hC2 : ((s[p + 1]'(by omega)).toNat : Int) ≤ 159 := by omega
            have hC3 : decide (((s[p + 1]'(by omega)).toNat : Int) < 128) = false := decide_eq_false (by omega)
            have hC4 : decide (159 < ((s[p + 1]'(by omega)).toNat : Int)) = false := decide_eq_false (by omega)
            have HN := Lib.hid (fun hc => VRel.ed HV.out hsz a1 a2 b1 b2 hc)
            clear hb0 hb1 a1 a2 b1 b2 hlow
            go_wp2
            go_loop [8, 9] (fun c k => ∃ (j : Nat) (cv : Int), 2 ≤ j ∧ j ≤ 3 ∧ k = .int .i64 j ∧ c = .int .u8 cv ∧ Hid (ContTo s p j)) (fun _ k => 3 - (intOf k).toNat)
            case atStart => exact ⟨2, _, by omega, by omega, rfl, rfl, Lib.hid (ContTo.start s p)⟩
            case round =>
              obtain ⟨j, cv, hj2, hj, rfl, rfl, HC⟩ := hrel
              by_cases hjn : j < 3
              · have hbj := byte_of_get s (p + j) (by omega)
                by_cases hcj : 128 ≤ byteAt s (p + j) ∧ byteAt s (p + j) ≤ 191
                · obtain ⟨d1, d2⟩ := hcj
                  have hD1 : 128 ≤ ((s[p + j]'(by omega)).toNat : Int) := by omega
                  have hD2 : ((s[p + j]'(by omega)).toNat : Int) ≤ 191 := by omega
                  have hD3 : decide (((s[p + j]'(by omega)).toNat : Int) < 128) = false := decide_eq_false (by omega)
                  have hD4 : decide (191 < ((s[p + j]'(by omega)).toNat : Int)) = false := decide_eq_false (by omega)
                  have HC2 := Lib.hid (HC.out.next d1 d2)
                  clear hbj d1 d2
                  go_wp2
                  go_round
                  case rel => exact ⟨j + 1, _, by omega, by omega, by go_num, rfl, HC2⟩
                  case measure => simp [intOf]; omega
                · have hD : ((s[p + j]'(by omega)).toNat : Int) < 128 ∨ 191 < ((s[p + j]'(by omega)).toNat : Int) := by omega
                  clear hbj hcj
                  rcases hD with hD | hD
                  · go_wp2
                    all_goals go_ret
                    all_goals exact VPost.no s w
                  · have hD' : decide (((s[p + j]'(by omega)).toNat : Int) < 128) = false := decide_eq_false (by omega)
                    go_wp2
                    all_goals go_ret
                    all_goals exact VPost.no s w
              · obtain rfl : j = 3 := by omega
                go_wp2
                go_round
                case rel => exact ⟨p + 3, by omega, by go_num, Lib.hid (HN.out HC.out)⟩
                case measure => simp [intOf]; omega
          · have hD : ((s[p + 1]'(by omega)).toNat : Int) < 128 ∨ 159 < ((s[p + 1]'(by omega)).toNat : Int) := by omega
            clear hb0 hb1 hc1 a1 a2 hlow
            rcases hD with hD | hD
            · go_wp2
              all_goals go_ret
              all_goals exact VPost.no s w
            · have hD' : decide (((s[p + 1]'(by omega)).toNat : Int) < 128) = false := decide_eq_false (by omega)
              go_wp2
              all_goals go_ret
              all_goals exact VPost.no s w
        · clear hb0 a1 a2 hlow
          go_wp2
          all_goals go_ret
          all_goals exact VPost.no s w
      by_cases h_ee : 238 ≤ byteAt s p ∧ byteAt s p ≤ 238
      · obtain ⟨a1, a2⟩ := h_ee
        have hB1 : 238 ≤ ((s[p]'hps).toNat : Int) := by omega
        have hB2 : ((s[p]'hps).toNat : Int) ≤ 238 := by omega
        have e0 : decide (((s[p]'hps).toNat : Int) < 128) = false := decide_eq_false (by omega)
        have e1 : decide (194 ≤ ((s[p]'hps).toNat : Int)) = true := decide_eq_true (by omega)
        have e2 : decide (225 ≤ ((s[p]'hps).toNat : Int)) = true := decide_eq_true (by omega)
        have e3 : decide (241 ≤ ((s[p]'hps).toNat : Int)) = false := decide_eq_false (by omega)
        have e4 : decide (((s[p]'hps).toNat : Int) ≤ 223) = false := decide_eq_false (by omega)
        have e5 : decide (((s[p]'hps).toNat : Int) ≤ 236) = false := decide_eq_false (by omega)
        have e6 : decide (((s[p]'hps).toNat : Int) ≤ 243) = true := decide_eq_true (by omega)
        have e7 : (((s[p]'hps).toNat : Int) == 224) = false := beq_eq_false_iff_ne.2 (by omega)
        have e8 : (((s[p]'hps).toNat : Int) == 237) = false := beq_eq_false_iff_ne.2 (by omega)
        have e9 : (((s[p]'hps).toNat : Int) == 240) = false := beq_eq_false_iff_ne.2 (by omega)
        have e10 : (((s[p]'hps).toNat : Int) == 244) = false := beq_eq_false_iff_ne.2 (by omega)
        have e11 : (((s[p]'hps).toNat : Int) == 238) = true := beq_iff_eq.2 (by omega)
        have e12 : (((s[p]'hps).toNat : Int) == 239) = false := beq_eq_false_iff_ne.2 (by omega)
        by_cases hsz : p + 2 < s.size
        · have hb1 := byte_of_get s (p + 1) (by omega)
          by_cases hc1 : 128 ≤ byteAt s (p + 1) ∧ byteAt s (p + 1) ≤ 191
          · obtain ⟨b1, b2⟩ := hc1
            have hC1 : 128 ≤ ((s[p + 1]'(by omega)).toNat : Int) := by omega
            have hC2 : ((s[p + 1]'(by omega)).toNat : Int) ≤ 191 := by omega
            have hC3 : decide (((s[p + 1]'(by omega)).toNat : Int) < 128) = false := decide_eq_false (by omega)
            have hC4 : decide (191 < ((s[p + 1]'(by omega)).toNat : Int)) = false := decide_eq_false (by omega)
            have HN := Lib.hid (fun hc => VRel.ee HV.out hsz a1 a2 b1 b2 hc)
            clear hb0 hb1 a1 a2 b1 b2 hlow
            go_wp2
            go_loop [8, 9] (fun c k => ∃ (j : Nat) (cv : Int), 2 ≤ j ∧ j ≤ 3 ∧ k = .int .i64 j ∧ c = .int .u8 cv ∧ Hid (ContTo s p j)) (fun _ k => 3 - (intOf k).toNat)
            case atStart => exact ⟨2, _, by omega, by omega, rfl, rfl, Lib.hid (ContTo.start s p)⟩
            case round =>
              obtain ⟨j, cv, hj2, hj, rfl, rfl, HC⟩ := hrel
              by_cases hjn : j < 3
              · have hbj := byte_of_get s (p + j) (by omega)
                by_cases hcj : 128 ≤ byteAt s (p + j) ∧ byteAt s (p + j) ≤ 191
                · obtain ⟨d1, d2⟩ := hcj
                  have hD1 : 128 ≤ ((s[p + j]'(by omega)).toNat : Int) := by omega
                  have hD2 : ((s[p + j]'(by omega)).toNat : Int) ≤ 191 := by omega
                  have hD3 : decide (((s[p + j]'(by omega)).toNat : Int) < 128) = false := decide_eq_false (by omega)
                  have hD4 : decide (191 < ((s[p + j]'(by omega)).toNat : Int)) = false := decide_eq_false (by omega)
                  have HC2 := Lib.hid (HC.out.next d1 d2)
                  clear hbj d1 d2
                  go_wp2
                  go_round
                  case rel => exact ⟨j + 1, _, by omega, by omega, by go_num, rfl, HC2⟩
                  case measure => simp [intOf]; omega
                · have hD : ((s[p + j]'(by omega)).toNat : Int) < 128 ∨ 191 < ((s[p + j]'(by omega)).toNat : Int) := by omega
                  clear hbj hcj
                  rcases hD with hD | hD
                  · go_wp2
                    all_goals go_ret
                    all_goals exact VPost.no s w
                  · have hD' : decide (((s[p + j]'(by omega)).toNat : Int) < 128) = false := decide_eq_false (by omega)
                    go_wp2
                    all_goals go_ret
                    all_goals exact VPost.no s w
              · obtain rfl : j = 3 := by omega
                go_wp2
                go_round
                case rel => exact ⟨p + 3, by omega, by go_num, Lib.hid (HN.out HC.out)⟩
                case measure => simp [intOf]; omega
          · have hD : ((s[p + 1]'(by omega)).toNat : Int) < 128 ∨ 191 < ((s[p + 1]'(by omega)).toNat : Int) := by omega
            clear hb0 hb1 hc1 a1 a2 hlow
            rcases hD with hD | hD
            · go_wp2
              all_goals go_ret
              all_goals exact VPost.no s w
            · have hD' : decide (((s[p + 1]'(by omega)).toNat : Int) < 128) = false := decide_eq_false (by omega)
              go_wp2
              all_goals go_ret
              all_goals exact VPost.no s w
        · clear hb0 a1 a2 hlow
          go_wp2
          all_goals go_ret
          all_goals exact VPost.no s w
      by_cases h_ef : 239 ≤ byteAt s p ∧ byteAt s p ≤ 239
      · obtain ⟨a1, a2⟩ := h_ef
        have hB1 : 239 ≤ ((s[p]'hps).toNat : Int) := by omega
        have hB2 : ((s[p]'hps).toNat : Int) ≤ 239 := by omega
        have e0 : decide (((s[p]'hps).toNat : Int) < 128) = false := decide_eq_false (by omega)
        have e1 : decide (194 ≤ ((s[p]'hps).toNat : Int)) = true := decide_eq_true (by omega)
        have e2 : decide (225 ≤ ((s[p]'hps).toNat : Int)) = true := decide_eq_true (by omega)
        have e3 : decide (241 ≤ ((s[p]'hps).toNat : Int)) = false := decide_eq_false (by omega)
        have e4 : decide (((s[p]'hps).toNat : Int) ≤ 223) = false := decide_eq_false (by omega)
        have e5 : decide (((s[p]'hps).toNat : Int) ≤ 236) = false := decide_eq_false (by omega)
        have e6 : decide (((s[p]'hps).toNat : Int) ≤ 243) = true := decide_eq_true (by omega)
        have e7 : (((s[p]'hps).toNat : Int) == 224) = false := beq_eq_false_iff_ne.2 (by omega)
        have e8 : (((s[p]'hps).toNat : Int) == 237) = false := beq_eq_false_iff_ne.2 (by omega)
        have e9 : (((s[p]'hps).toNat : Int) == 240) = false := beq_eq_false_iff_ne.2 (by omega)
        have e10 : (((s[p]'hps).toNat : Int) == 244) = false := beq_eq_false_iff_ne.2 (by omega)
        have e11 : (((s[p]'hps).toNat : Int) == 238) = false := beq_eq_false_iff_ne.2 (by omega)
        have e12 : (((s[p]'hps).toNat : Int) == 239) = true := beq_iff_eq.2 (by omega)
        by_cases hsz : p + 2 < s.size
        · have hb1 := byte_of_get s (p + 1) (by omega)
          by_cases hc1 : 128 ≤ byteAt s (p + 1) ∧ byteAt s (p + 1) ≤ 191
          · obtain ⟨b1, b2⟩ := hc1
            have hC1 : 128 ≤ ((s[p + 1]'(by omega)).toNat : Int) := by omega
            have hC2 : ((s[p + 1]'(by omega)).toNat : Int) ≤ 191 := by omega
            have hC3 : decide (((s[p + 1]'(by omega)).toNat : Int) < 128) = false := decide_eq_false (by omega)
            have hC4 : decide (191 < ((s[p + 1]'(by omega)).toNat : Int)) = false := decide_eq_false (by omega)
            have HN := Lib.hid (fun hc => VRel.ef HV.out hsz a1 a2 b1 b2 hc)
            clear hb0 hb1 a1 a2 b1 b2 hlow
            go_wp2
            go_loop [8, 9] (fun c k => ∃ (j : Nat) (cv : Int), 2 ≤ j ∧ j ≤ 3 ∧ k = .int .i64 j ∧ c = .int .u8 cv ∧ Hid (ContTo s p j)) (fun _ k => 3 - (intOf k).toNat)
            case atStart => exact ⟨2, _, by omega, by omega, rfl, rfl, Lib.hid (ContTo.start s p)⟩
            case round =>
              obtain ⟨j, cv, hj2, hj, rfl, rfl, HC⟩ := hrel
              by_cases hjn : j < 3
              · have hbj := byte_of_get s (p + j) (by omega)
                by_cases hcj : 128 ≤ byteAt s (p + j) ∧ byteAt s (p + j) ≤ 191
                · obtain ⟨d1, d2⟩ := hcj
                  have hD1 : 128 ≤ ((s[p + j]'(by omega)).toNat : Int) := by omega
                  have hD2 : ((s[p + j]'(by omega)).toNat : Int) ≤ 191 := by omega
                  have hD3 : decide (((s[p + j]'(by omega)).toNat : Int) < 128) = false := decide_eq_false (by omega)
                  have hD4 : decide (191 < ((s[p + j]'(by omega)).toNat : Int)) = false := decide_eq_false (by omega)
                  have HC2 := Lib.hid (HC.out.next d1 d2)
                  clear hbj d1 d2
                  go_wp2
                  go_round
                  case rel => exact ⟨j + 1, _, by omega, by omega, by go_num, rfl, HC2⟩
                  case measure => simp [intOf]; omega
                · have hD : ((s[p + j]'(by omega)).toNat : Int) < 128 ∨ 191 < ((s[p + j]'(by omega)).toNat : Int) := by omega
                  clear hbj hcj
                  rcases hD with hD | hD
                  · go_wp2
                    all_goals go_ret
                    all_goals exact VPost.no s w
                  · have hD' : decide (((s[p + j]'(by omega)).toNat : Int) < 128) = false := decide_eq_false (by omega)
                    go_wp2
                    all_goals go_ret
                    all_goals exact VPost.no s w
              · obtain rfl : j = 3 := by omega
                go_wp2
                go_round
                case rel => exact ⟨p + 3, by omega, by go_num, Lib.hid (HN.out HC.out)⟩
                case measure => simp [intOf]; omega
          · have hD : ((s[p + 1]'(by omega)).toNat : Int) < 128 ∨ 191 < ((s[p + 1]'(by omega)).toNat : Int) := by omega
            clear hb0 hb1 hc1 a1 a2 hlow
            rcases hD with hD | hD
            · go_wp2
              all_goals go_ret
              all_goals exact VPost.no s w
            · have hD' : decide (((s[p + 1]'(by omega)).toNat : Int) < 128) = false := decide_eq_false (by omega)
              go_wp2
              all_goals go_ret
              all_goals exact VPost.no s w
        · clear hb0 a1 a2 hlow
          go_wp2
          all_goals go_ret
          all_goals exact VPost.no s w
      by_cases h_f0 : 240 ≤ byteAt s p ∧ byteAt s p ≤ 240
      · obtain ⟨a1, a2⟩ := h_f0
        have hB1 : 240 ≤ ((s[p]'hps).toNat : Int) := by omega
        have hB2 : ((s[p]'hps).toNat : Int) ≤ 240 := by omega
        have e0 : decide (((s[p]'hps).toNat : Int) < 128) = false := decide_eq_false (by omega)
        have e1 : decide (194 ≤ ((s[p]'hps).toNat : Int)) = true := decide_eq_true (by omega)
        have e2 : decide (225 ≤ ((s[p]'hps).toNat : Int)) = true := decide_eq_true (by omega)
        have e3 : decide (241 ≤ ((s[p]'hps).toNat : Int)) = false := decide_eq_false (by omega)
        have e4 : decide (((s[p]'hps).toNat : Int) ≤ 223) = false := decide_eq_false (by omega)
        have e5 : decide (((s[p]'hps).toNat : Int) ≤ 236) = false := decide_eq_false (by omega)
        have e6 : decide (((s[p]'hps).toNat : Int) ≤ 243) = true := decide_eq_true (by omega)
        have e7 : (((s[p]'hps).toNat : Int) == 224) = false := beq_eq_false_iff_ne.2 (by omega)
        have e8 : (((s[p]'hps).toNat : Int) == 237) = false := beq_eq_false_iff_ne.2 (by omega)
        have e9 : (((s[p]'hps).toNat : Int) == 240) = true := beq_iff_eq.2 (by omega)
        have e10 : (((s[p]'hps).toNat : Int) == 244) = false := beq_eq_false_iff_ne.2 (by omega)
        have e11 : (((s[p]'hps).toNat : Int) == 238) = false := beq_eq_false_iff_ne.2 (by omega)
        have e12 : (((s[p]'hps).toNat : Int) == 239) = false := beq_eq_false_iff_ne.2 (by omega)
        by_cases hsz : p + 3 < s.size
        · have hb1 := byte_of_get s (p + 1) (by omega)
          by_cases hc1 : 144 ≤ byteAt s (p + 1) ∧ byteAt s (p + 1) ≤ 191
          · obtain ⟨b1, b2⟩ := hc1
            have hC1 : 144 ≤ ((s[p + 1]'(by omega)).toNat : Int) := by omega
            have hC2 : ((s[p + 1]'(by omega)).toNat : Int) ≤ 191 := by omega
            have hC3 : decide (((s[p + 1]'(by omega)).toNat : Int) < 144) = false := decide_eq_false (by omega)
            have hC4 : decide (191 < ((s[p + 1]'(by omega)).toNat : Int)) = false := decide_eq_false (by omega)
            have HN := Lib.hid (fun hc => VRel.f0 HV.out hsz a1 a2 b1 b2 hc)
            clear hb0 hb1 a1 a2 b1 b2 hlow
            go_wp2
            go_loop [8, 9] (fun c k => ∃ (j : Nat) (cv : Int), 2 ≤ j ∧ j ≤ 4 ∧ k = .int .i64 j ∧ c = .int .u8 cv ∧ Hid (ContTo s p j)) (fun _ k => 4 - (intOf k).toNat)
            case atStart => exact ⟨2, _, by omega, by omega, rfl, rfl, Lib.hid (ContTo.start s p)⟩
            case round =>
              obtain ⟨j, cv, hj2, hj, rfl, rfl, HC⟩ := hrel
              by_cases hjn : j < 4
              · have hbj := byte_of_get s (p + j) (by omega)
                by_cases hcj : 128 ≤ byteAt s (p + j) ∧ byteAt s (p + j) ≤ 191
                · obtain ⟨d1, d2⟩ := hcj
                  have hD1 : 128 ≤ ((s[p + j]'(by omega)).toNat : Int) := by omega
                  have hD2 : ((s[p + j]'(by omega)).toNat : Int) ≤ 191 := by omega
                  have hD3 : decide (((s[p + j]'(by omega)).toNat : Int) < 128) = false := decide_eq_false (by omega)
                  have hD4 : decide (191 < ((s[p + j]'(by omega)).toNat : Int)) = false := decide_eq_false (by omega)
                  have HC2 := Lib.hid (HC.out.next d1 d2)
                  clear hbj d1 d2
                  go_wp2
                  go_round
                  case rel => exact ⟨j + 1, _, by omega, by omega, by go_num, rfl, HC2⟩
                  case measure => simp [intOf]; omega
                · have hD : ((s[p + j]'(by omega)).toNat : Int) < 128 ∨ 191 < ((s[p + j]'(by omega)).toNat : Int) := by omega
                  clear hbj hcj
                  rcases hD with hD | hD
                  · go_wp2
                    all_goals go_ret
                    all_goals exact VPost.no s w
                  · have hD' : decide (((s[p + j]'(by omega)).toNat : Int) < 128) = false := decide_eq_false (by omega)
                    go_wp2
                    all_goals go_ret
                    all_goals exact VPost.no s w
              · obtain rfl : j = 4 := by omega
                go_wp2
                go_round
                case rel => exact ⟨p + 4, by omega, by go_num, Lib.hid (HN.out HC.out)⟩
                case measure => simp [intOf]; omega
          · have hD : ((s[p + 1]'(by omega)).toNat : Int) < 144 ∨ 191 < ((s[p + 1]'(by omega)).toNat : Int) := by omega
            clear hb0 hb1 hc1 a1 a2 hlow
            rcases hD with hD | hD
            · go_wp2
              all_goals go_ret
              all_goals exact VPost.no s w
            · have hD' : decide (((s[p + 1]'(by omega)).toNat : Int) < 144) = false := decide_eq_false (by omega)
              go_wp2
              all_goals go_ret
              all_goals exact VPost.no s w
        · clear hb0 a1 a2 hlow
          go_wp2
          all_goals go_ret
          all_goals exact VPost.no s w
      by_cases h_f1 : 241 ≤ byteAt s p ∧ byteAt s p ≤ 243
      · obtain ⟨a1, a2⟩ := h_f1
        have hB1 : 241 ≤ ((s[p]'hps).toNat : Int) := by omega
        have hB2 : ((s[p]'hps).toNat : Int) ≤ 243 := by omega
        have e0 : decide (((s[p]'hps).toNat : Int) < 128) = false := decide_eq_false (by omega)
        have e1 : decide (194 ≤ ((s[p]'hps).toNat : Int)) = true := decide_eq_true (by omega)
        have e2 : decide (225 ≤ ((s[p]'hps).toNat : Int)) = true := decide_eq_true (by omega)
        have e3 : decide (241 ≤ ((s[p]'hps).toNat : Int)) = true := decide_eq_true (by omega)
        have e4 : decide (((s[p]'hps).toNat : Int) ≤ 223) = false := decide_eq_false (by omega)
        have e5 : decide (((s[p]'hps).toNat : Int) ≤ 236) = false := decide_eq_false (by omega)
        have e6 : decide (((s[p]'hps).toNat : Int) ≤ 243) = true := decide_eq_true (by omega)
        have e7 : (((s[p]'hps).toNat : Int) == 224) = false := beq_eq_false_iff_ne.2 (by omega)
        have e8 : (((s[p]'hps).toNat : Int) == 237) = false := beq_eq_false_iff_ne.2 (by omega)
        have e9 : (((s[p]'hps).toNat : Int) == 240) = false := beq_eq_false_iff_ne.2 (by omega)
        have e10 : (((s[p]'hps).toNat : Int) == 244) = false := beq_eq_false_iff_ne.2 (by omega)
        have e11 : (((s[p]'hps).toNat : Int) == 238) = false := beq_eq_false_iff_ne.2 (by omega)
        have e12 : (((s[p]'hps).toNat : Int) == 239) = false := beq_eq_false_iff_ne.2 (by omega)
        by_cases hsz : p + 3 < s.size
        · have hb1 := byte_of_get s (p + 1) (by omega)
          by_cases hc1 : 128 ≤ byteAt s (p + 1) ∧ byteAt s (p + 1) ≤ 191
          · obtain ⟨b1, b2⟩ := hc1
            have hC1 : 128 ≤ ((s[p + 1]'(by omega)).toNat : Int) := by omega
            have hC2 : ((s[p + 1]'(by omega)).toNat : Int) ≤ 191 := by omega
            have hC3 : decide (((s[p + 1]'(by omega)).toNat : Int) < 128) = false := decide_eq_false (by omega)
            have hC4 : decide (191 < ((s[p + 1]'(by omega)).toNat : Int)) = false := decide_eq_false (by omega)
            have HN := Lib.hid (fun hc => VRel.f1 HV.out hsz a1 a2 b1 b2 hc)
            clear hb0 hb1 a1 a2 b1 b2 hlow
            go_wp2
            go_loop [8, 9] (fun c k => ∃ (j : Nat) (cv : Int), 2 ≤ j ∧ j ≤ 4 ∧ k = .int .i64 j ∧ c = .int .u8 cv ∧ Hid (ContTo s p j)) (fun _ k => 4 - (intOf k).toNat)
            case atStart => exact ⟨2, _, by omega, by omega, rfl, rfl, Lib.hid (ContTo.start s p)⟩
            case round =>
              obtain ⟨j, cv, hj2, hj, rfl, rfl, HC⟩ := hrel
              by_cases hjn : j < 4
              · have hbj := byte_of_get s (p + j) (by omega)
                by_cases hcj : 128 ≤ byteAt s (p + j) ∧ byteAt s (p + j) ≤ 191
                · obtain ⟨d1, d2⟩ := hcj
                  have hD1 : 128 ≤ ((s[p + j]'(by omega)).toNat : Int) := by omega
                  have hD2 : ((s[p + j]'(by omega)).toNat : Int) ≤ 191 := by omega
                  have hD3 : decide (((s[p + j]'(by omega)).toNat : Int) < 128) = false := decide_eq_false (by omega)
                  have hD4 : decide (191 < ((s[p + j]'(by omega)).toNat : Int)) = false := decide_eq_false (by omega)
                  have HC2 := Lib.hid (HC.out.next d1 d2)
                  clear hbj d1 d2
                  go_wp2
                  go_round
                  case rel => exact ⟨j + 1, _, by omega, by omega, by go_num, rfl, HC2⟩
                  case measure => simp [intOf]; omega
                · have hD : ((s[p + j]'(by omega)).toNat : Int) < 128 ∨ 191 < ((s[p + j]'(by omega)).toNat : Int) := by omega
                  clear hbj hcj
                  rcases hD with hD | hD
                  · go_wp2
                    all_goals go_ret
                    all_goals exact VPost.no s w
                  · have hD' : decide (((s[p + j]'(by omega)).toNat : Int) < 128) = false := decide_eq_false (by omega)
                    go_wp2
                    all_goals go_ret
                    all_goals exact VPost.no s w
              · obtain rfl : j = 4 := by omega
                go_wp2
                go_round
                case rel => exact ⟨p + 4, by omega, by go_num, Lib.hid (HN.out HC.out)⟩
                case measure => simp [intOf]; omega
          · have hD : ((s[p + 1]'(by omega)).toNat : Int) < 128 ∨ 191 < ((s[p + 1]'(by omega)).toNat : Int) := by omega
            clear hb0 hb1 hc1 a1 a2 hlow
            rcases hD with hD | hD
            · go_wp2
              all_goals go_ret
              all_goals exact VPost.no s w
            · have hD' : decide (((s[p + 1]'(by omega)).toNat : Int) < 128) = false := decide_eq_false (by omega)
              go_wp2
              all_goals go_ret
              all_goals exact VPost.no s w
        · clear hb0 a1 a2 hlow
          go_wp2
          all_goals go_ret
          all_goals exact VPost.no s w
      by_cases h_f4 : 244 ≤ byteAt s p ∧ byteAt s p ≤ 244
      · obtain ⟨a1, a2⟩ := h_f4
        have hB1 : 244 ≤ ((s[p]'hps).toNat : Int) := by omega
        have hB2 : ((s[p]'hps).toNat : Int) ≤ 244 := by omega
        have e0 : decide (((s[p]'hps).toNat : Int) < 128) = false := decide_eq_false (by omega)
        have e1 : decide (194 ≤ ((s[p]'hps).toNat : Int)) = true := decide_eq_true (by omega)
        have e2 : decide (225 ≤ ((s[p]'hps).toNat : Int)) = true := decide_eq_true (by omega)
        have e3 : decide (241 ≤ ((s[p]'hps).toNat : Int)) = true := decide_eq_true (by omega)
        have e4 : decide (((s[p]'hps).toNat : Int) ≤ 223) = false := decide_eq_false (by omega)
        have e5 : decide (((s[p]'hps).toNat : Int) ≤ 236) = false := decide_eq_false (by omega)
        have e6 : decide (((s[p]'hps).toNat : Int) ≤ 243) = false := decide_eq_false (by omega)
        have e7 : (((s[p]'hps).toNat : Int) == 224) = false := beq_eq_false_iff_ne.2 (by omega)
        have e8 : (((s[p]'hps).toNat : Int) == 237) = false := beq_eq_false_iff_ne.2 (by omega)
        have e9 : (((s[p]'hps).toNat : Int) == 240) = false := beq_eq_false_iff_ne.2 (by omega)
        have e10 : (((s[p]'hps).toNat : Int) == 244) = true := beq_iff_eq.2 (by omega)
        have e11 : (((s[p]'hps).toNat : Int) == 238) = false := beq_eq_false_iff_ne.2 (by omega)
        have e12 : (((s[p]'hps).toNat : Int) == 239) = false := beq_eq_false_iff_ne.2 (by omega)
        by_cases hsz : p + 3 < s.size
        · have hb1 := byte_of_get s (p + 1) (by omega)
          by_cases hc1 : 128 ≤ byteAt s (p + 1) ∧ byteAt s (p + 1) ≤ 143
          · obtain ⟨b1, b2⟩ := hc1
            have hC1 : 128 ≤ ((s[p + 1]'(by omega)).toNat : Int) := by omega
            have hC2 : ((s[p + 1]'(by omega)).toNat : Int) ≤ 143 := by omega
            have hC3 : decide (((s[p + 1]'(by omega)).toNat : Int) < 128) = false := decide_eq_false (by omega)
            have hC4 : decide (143 < ((s[p + 1]'(by omega)).toNat : Int)) = false := decide_eq_false (by omega)
            have HN := Lib.hid (fun hc => VRel.f4 HV.out hsz a1 a2 b1 b2 hc)
            clear hb0 hb1 a1 a2 b1 b2 hlow
            go_wp2
            go_loop [8, 9] (fun c k => ∃ (j : Nat) (cv : Int), 2 ≤ j ∧ j ≤ 4 ∧ k = .int .i64 j ∧ c = .int .u8 cv ∧ Hid (ContTo s p j)) (fun _ k => 4 - (intOf k).toNat)
            case atStart => exact ⟨2, _, by omega, by omega, rfl, rfl, Lib.hid (ContTo.start s p)⟩
            case round =>
              obtain ⟨j, cv, hj2, hj, rfl, rfl, HC⟩ := hrel
              by_cases hjn : j < 4
              · have hbj := byte_of_get s (p + j) (by omega)
                by_cases hcj : 128 ≤ byteAt s (p + j) ∧ byteAt s (p + j) ≤ 191
                · obtain ⟨d1, d2⟩ := hcj
                  have hD1 : 128 ≤ ((s[p + j]'(by omega)).toNat : Int) := by omega
                  have hD2 : ((s[p + j]'(by omega)).toNat : Int) ≤ 191 := by omega
                  have hD3 : decide (((s[p + j]'(by omega)).toNat : Int) < 128) = false := decide_eq_false (by omega)
                  have hD4 : decide (191 < ((s[p + j]'(by omega)).toNat : Int)) = false := decide_eq_false (by omega)
                  have HC2 := Lib.hid (HC.out.next d1 d2)
                  clear hbj d1 d2
                  go_wp2
                  go_round
                  case rel => exact ⟨j + 1, _, by omega, by omega, by go_num, rfl, HC2⟩
                  case measure => simp [intOf]; omega
                · have hD : ((s[p + j]'(by omega)).toNat : Int) < 128 ∨ 191 < ((s[p + j]'(by omega)).toNat : Int) := by omega
                  clear hbj hcj
                  rcases hD with hD | hD
                  · go_wp2
                    all_goals go_ret
                    all_goals exact VPost.no s w
                  · have hD' : decide (((s[p + j]'(by omega)).toNat : Int) < 128) = false := decide_eq_false (by omega)
                    go_wp2
                    all_goals go_ret
                    all_goals exact VPost.no s w
              · obtain rfl : j = 4 := by omega
                go_wp2
                go_round
                case rel => exact ⟨p + 4, by omega, by go_num, Lib.hid (HN.out HC.out)⟩
                case measure => simp [intOf]; omega
          · have hD : ((s[p + 1]'(by omega)).toNat : Int) < 128 ∨ 143 < ((s[p + 1]'(by omega)).toNat : Int) := by omega
            clear hb0 hb1 hc1 a1 a2 hlow
            rcases hD with hD | hD
            · go_wp2
              all_goals go_ret
              all_goals exact VPost.no s w
            · have hD' : decide (((s[p + 1]'(by omega)).toNat : Int) < 128) = false := decide_eq_false (by omega)
              go_wp2
              all_goals go_ret
              all_goals exact VPost.no s w
        · clear hb0 a1 a2 hlow
          go_wp2
          all_goals go_ret
          all_goals exact VPost.no s w
      by_cases hmid : byteAt s p ≤ 193
      · have hB1 : 128 ≤ ((s[p]'hps).toNat : Int) := by omega
        have hB2 : ((s[p]'hps).toNat : Int) ≤ 193 := by omega
        have e0 : decide (((s[p]'hps).toNat : Int) < 128) = false := decide_eq_false (by omega)
        have e1 : decide (194 ≤ ((s[p]'hps).toNat : Int)) = false := decide_eq_false (by omega)
        have e2 : decide (225 ≤ ((s[p]'hps).toNat : Int)) = false := decide_eq_false (by omega)
        have e3 : decide (241 ≤ ((s[p]'hps).toNat : Int)) = false := decide_eq_false (by omega)
        have e4 : decide (((s[p]'hps).toNat : Int) ≤ 223) = true := decide_eq_true (by omega)
        have e5 : decide (((s[p]'hps).toNat : Int) ≤ 236) = true := decide_eq_true (by omega)
        have e6 : decide (((s[p]'hps).toNat : Int) ≤ 243) = true := decide_eq_true (by omega)
        have e7 : (((s[p]'hps).toNat : Int) == 224) = false := beq_eq_false_iff_ne.2 (by omega)
        have e8 : (((s[p]'hps).toNat : Int) == 237) = false := beq_eq_false_iff_ne.2 (by omega)
        have e9 : (((s[p]'hps).toNat : Int) == 240) = false := beq_eq_false_iff_ne.2 (by omega)
        have e10 : (((s[p]'hps).toNat : Int) == 244) = false := beq_eq_false_iff_ne.2 (by omega)
        have e11 : (((s[p]'hps).toNat : Int) == 238) = false := beq_eq_false_iff_ne.2 (by omega)
        have e12 : (((s[p]'hps).toNat : Int) == 239) = false := beq_eq_false_iff_ne.2 (by omega)
        clear hb0 hlow hmid h_two h_e0 h_e1 h_ed h_ee h_ef h_f0 h_f1 h_f4
        go_wp2
        all_goals go_ret
        all_goals exact VPost.no s w
      · have hB1 : 245 ≤ ((s[p]'hps).toNat : Int) := by omega
        have e0 : decide (((s[p]'hps).toNat : Int) < 128) = false := decide_eq_false (by omega)
        have e1 : decide (194 ≤ ((s[p]'hps).toNat : Int)) = true := decide_eq_true (by omega)
        have e2 : decide (225 ≤ ((s[p]'hps).toNat : Int)) = true := decide_eq_true (by omega)
        have e3 : decide (241 ≤ ((s[p]'hps).toNat : Int)) = true := decide_eq_true (by omega)
        have e4 : decide (((s[p]'hps).toNat : Int) ≤ 223) = false := decide_eq_false (by omega)
        have e5 : decide (((s[p]'hps).toNat : Int) ≤ 236) = false := decide_eq_false (by omega)
        have e6 : decide (((s[p]'hps).toNat : Int) ≤ 243) = false := decide_eq_false (by omega)
        have e7 : (((s[p]'hps).toNat : Int) == 224) = false := beq_eq_false_iff_ne.2 (by omega)
        have e8 : (((s[p]'hps).toNat : Int) == 237) = false := beq_eq_false_iff_ne.2 (by omega)
        have e9 : (((s[p]'hps).toNat : Int) == 240) = false := beq_eq_false_iff_ne.2 (by omega)
        have e10 : (((s[p]'hps).toNat : Int) == 244) = false := beq_eq_false_iff_ne.2 (by omega)
        have e11 : (((s[p]'hps).toNat : Int) == 238) = false := beq_eq_false_iff_ne.2 (by omega)
        have e12 : (((s[p]'hps).toNat : Int) == 239) = false := beq_eq_false_iff_ne.2 (by omega)
        clear hb0 hlow hmid h_two h_e0 h_e1 h_ed h_ee h_ef h_f0 h_f1 h_f4
        go_wp2
        all_goals go_ret
        all_goals exact VPost.no s w
    · obtain rfl : p = s.size := by omega
      go_wp2
      go_ret
      exact ⟨true, rfl, fun _ => HV.out.done, rfl⟩

end Go.Proofs.YtmieljdnfjpheaaDoor
