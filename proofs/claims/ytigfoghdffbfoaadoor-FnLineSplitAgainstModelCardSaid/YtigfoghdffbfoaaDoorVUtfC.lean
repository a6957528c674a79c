/-
  validUTF8_b3 answers true only for well-formed UTF-8.
-/
import Derived.Test.YtigfoghdffbfoaaDoorValid
import Derived.Test.YtigfoghdffbfoaaDoorProg
import Derived.WalkKit
import Derived.WalkSpells
import Derived.Lib.Hide
import Derived.IntWalk
namespace Go.Proofs.YtigfoghdffbfoaaDoor
open Go Go.RowKit

def VPost (s : ByteArray) (w : World) (e : Ending) (w' : World) : Prop := ∃ b : Bool, e = .returned (.bool b) ∧ (b = true → ValidU s) ∧ w = w'
theorem VPost.no (s : ByteArray) (w : World) : VPost s w (.returned (.bool false)) w := ⟨false, rfl, fun h => (by cases h), rfl⟩
/-- What the check knows at the round's head. -/
def VRel (s : ByteArray) (p : Nat) : Prop := ∃ n, p = bpos s n ∧ ∀ m, m < n → good s (bpos s m)
theorem VRel.next {s : ByteArray} {p k : Nat} (h : VRel s p) (hp : p < s.size) (hk : (Utf8.decode s p).2 = k) (hg : good s p) : VRel s (p + k) := by
  obtain ⟨n, rfl, hm⟩ := h
  exact ⟨n + 1, by rw [bpos_next hp, hk], good_next hm hg⟩
theorem VRel.low {s : ByteArray} {p : Nat} (h : VRel s p) (hp : p < s.size) (hl : byteAt s p < 128) : VRel s (p + 1) := h.next hp (by rw [decode_low s p hp hl]) (good_low hp hl)
theorem VRel.done {s : ByteArray} (h : VRel s s.size) : ValidU s := by
  obtain ⟨n, hn, hm⟩ := h
  exact valid_of hn.symm hm
def ContTo (s : ByteArray) (p j : Nat) : Prop := ∀ m, 2 ≤ m → m < j → 128 ≤ byteAt s (p + m) ∧ byteAt s (p + m) ≤ 191
theorem ContTo.start (s : ByteArray) (p : Nat) : ContTo s p 2 := fun m h1 h2 => absurd h1 (by omega)
theorem ContTo.next {s : ByteArray} {p j : Nat} (h : ContTo s p j) (h1 : 128 ≤ byteAt s (p + j)) (h2 : byteAt s (p + j) ≤ 191) : ContTo s p (j + 1) := fun m a b => by
  by_cases hm : m < j
  · exact h m a hm
  · obtain rfl : m = j := by omega
    exact ⟨h1, h2⟩

theorem VRel.two {s : ByteArray} {p : Nat} (h : VRel s p) (hp : p + 1 < s.size) (a1 : 194 ≤ byteAt s p) (a2 : byteAt s p ≤ 223) (b1 : 128 ≤ byteAt s (p + 1)) (b2 : byteAt s (p + 1) ≤ 191) (_hc : ContTo s p 2) : VRel s (p + 2) := by
  have hd : (Utf8.decode s p).2 = 2 := by exact dec2 s p (by omega) (by omega) (by omega) (by omega) (by omega)
  exact h.next (by omega) hd (good_wide (by omega))

theorem VRel.e0 {s : ByteArray} {p : Nat} (h : VRel s p) (hp : p + 2 < s.size) (a1 : 224 ≤ byteAt s p) (a2 : byteAt s p ≤ 224) (b1 : 160 ≤ byteAt s (p + 1)) (b2 : byteAt s (p + 1) ≤ 191) (hc : ContTo s p 3) : VRel s (p + 3) := by
  have hd : (Utf8.decode s p).2 = 3 := by have c2 := hc 2 (by omega) (by omega); exact dec3 s p (by omega) (by omega) (by omega) (by omega) (by omega) (fun _ => by omega) (fun _ => by omega) (c2.1) (c2.2)
  exact h.next (by omega) hd (good_wide (by omega))

theorem VRel.e1 {s : ByteArray} {p : Nat} (h : VRel s p) (hp : p + 2 < s.size) (a1 : 225 ≤ byteAt s p) (a2 : byteAt s p ≤ 236) (b1 : 128 ≤ byteAt s (p + 1)) (b2 : byteAt s (p + 1) ≤ 191) (hc : ContTo s p 3) : VRel s (p + 3) := by
  have hd : (Utf8.decode s p).2 = 3 := by have c2 := hc 2 (by omega) (by omega); exact dec3 s p (by omega) (by omega) (by omega) (by omega) (by omega) (fun _ => by omega) (fun _ => by omega) (c2.1) (c2.2)
  exact h.next (by omega) hd (good_wide (by omega))

theorem VRel.ed {s : ByteArray} {p : Nat} (h : VRel s p) (hp : p + 2 < s.size) (a1 : 237 ≤ byteAt s p) (a2 : byteAt s p ≤ 237) (b1 : 128 ≤ byteAt s (p + 1)) (b2 : byteAt s (p + 1) ≤ 159) (hc : ContTo s p 3) : VRel s (p + 3) := by
  have hd : (Utf8.decode s p).2 = 3 := by have c2 := hc 2 (by omega) (by omega); exact dec3 s p (by omega) (by omega) (by omega) (by omega) (by omega) (fun _ => by omega) (fun _ => by omega) (c2.1) (c2.2)
  exact h.next (by omega) hd (good_wide (by omega))

theorem VRel.ee {s : ByteArray} {p : Nat} (h : VRel s p) (hp : p + 2 < s.size) (a1 : 238 ≤ byteAt s p) (a2 : byteAt s p ≤ 238) (b1 : 128 ≤ byteAt s (p + 1)) (b2 : byteAt s (p + 1) ≤ 191) (hc : ContTo s p 3) : VRel s (p + 3) := by
  have hd : (Utf8.decode s p).2 = 3 := by have c2 := hc 2 (by omega) (by omega); exact dec3 s p (by omega) (by omega) (by omega) (by omega) (by omega) (fun _ => by omega) (fun _ => by omega) (c2.1) (c2.2)
  exact h.next (by omega) hd (good_wide (by omega))

theorem VRel.ef {s : ByteArray} {p : Nat} (h : VRel s p) (hp : p + 2 < s.size) (a1 : 239 ≤ byteAt s p) (a2 : byteAt s p ≤ 239) (b1 : 128 ≤ byteAt s (p + 1)) (b2 : byteAt s (p + 1) ≤ 191) (hc : ContTo s p 3) : VRel s (p + 3) := by
  have hd : (Utf8.decode s p).2 = 3 := by have c2 := hc 2 (by omega) (by omega); exact dec3 s p (by omega) (by omega) (by omega) (by omega) (by omega) (fun _ => by omega) (fun _ => by omega) (c2.1) (c2.2)
  exact h.next (by omega) hd (good_wide (by omega))

theorem VRel.f0 {s : ByteArray} {p : Nat} (h : VRel s p) (hp : p + 3 < s.size) (a1 : 240 ≤ byteAt s p) (a2 : byteAt s p ≤ 240) (b1 : 144 ≤ byteAt s (p + 1)) (b2 : byteAt s (p + 1) ≤ 191) (hc : ContTo s p 4) : VRel s (p + 4) := by
  have hd : (Utf8.decode s p).2 = 4 := by have c2 := hc 2 (by omega) (by omega); have c3 := hc 3 (by omega) (by omega); exact dec4 s p (by omega) (by omega) (by omega) (by omega) (by omega) (fun _ => by omega) (fun _ => by omega) (c2.1) (c2.2) (c3.1) (c3.2)
  exact h.next (by omega) hd (good_wide (by omega))

theorem VRel.f1 {s : ByteArray} {p : Nat} (h : VRel s p) (hp : p + 3 < s.size) (a1 : 241 ≤ byteAt s p) (a2 : byteAt s p ≤ 243) (b1 : 128 ≤ byteAt s (p + 1)) (b2 : byteAt s (p + 1) ≤ 191) (hc : ContTo s p 4) : VRel s (p + 4) := by
  have hd : (Utf8.decode s p).2 = 4 := by have c2 := hc 2 (by omega) (by omega); have c3 := hc 3 (by omega) (by omega); exact dec4 s p (by omega) (by omega) (by omega) (by omega) (by omega) (fun _ => by omega) (fun _ => by omega) (c2.1) (c2.2) (c3.1) (c3.2)
  exact h.next (by omega) hd (good_wide (by omega))

theorem VRel.f4 {s : ByteArray} {p : Nat} (h : VRel s p) (hp : p + 3 < s.size) (a1 : 244 ≤ byteAt s p) (a2 : byteAt s p ≤ 244) (b1 : 128 ≤ byteAt s (p + 1)) (b2 : byteAt s (p + 1) ≤ 143) (hc : ContTo s p 4) : VRel s (p + 4) := by
  have hd : (Utf8.decode s p).2 = 4 := by have c2 := hc 2 (by omega) (by omega); have c3 := hc 3 (by omega) (by omega); exact dec4 s p (by omega) (by omega) (by omega) (by omega) (by omega) (fun _ => by omega) (fun _ => by omega) (c2.1) (c2.2) (c3.1) (c3.2)
  exact h.next (by omega) hd (good_wide (by omega))

theorem isCont_yes (c : Int) (h0 : 128 ≤ c) (h1 : c ≤ 191) (w : World) : Calls Tryd.prog 11 #[.int .u8 c] w fun e w' => e = .returned (.bool true) ∧ w = w' := by
  go_enter Tryd.func11, Tryd.ntmps11
  go_wp2
  go_ret
  exact ⟨rfl, rfl⟩
theorem isCont_no (c : Int) (h : c < 128 ∨ 191 < c) (w : World) : Calls Tryd.prog 11 #[.int .u8 c] w fun e w' => e = .returned (.bool false) ∧ w = w' := by
  rcases h with h | h
  · have d : decide (128 ≤ c) = false := decide_eq_false (by omega)
    go_enter Tryd.func11, Tryd.ntmps11
    go_wp2
    go_ret
    exact ⟨rfl, rfl⟩
  · have d : decide (c ≤ 191) = false := decide_eq_false (by omega)
    go_enter Tryd.func11, Tryd.ntmps11
    go_wp2
    all_goals go_ret
    all_goals exact ⟨rfl, rfl⟩

set_option maxHeartbeats 6400000 in
set_option maxRecDepth 100000 in
theorem validB3 (s : ByteArray) (hs : s.size ≤ 1099511627775) (w : World) : Calls Tryd.prog 8 #[.string s] w (VPost s w) := by
  go_enter Tryd.func8, Tryd.ntmps8
  go_wp2
  go_loop [4] (fun i => ∃ p : Nat, p ≤ s.size ∧ i = .int .i64 p ∧ Hid (VRel s p)) (fun i => s.size - (intOf i).toNat)
  case atStart => exact ⟨0, Nat.zero_le _, rfl, Lib.hid ⟨0, rfl, fun m hm => absurd hm (by omega)⟩⟩
  case round =>
    obtain ⟨p, hp, rfl, HV⟩ := hrel
    by_cases hps : p < s.size
    · have hb0 := byte_of_get s p hps
      by_cases hlow : byteAt s p < 128
      · have hB : ((s[p]'hps).toNat : Int) < 128 := by omega
        have HN := Lib.hid (HV.out.low hps hlow)
        clear hb0 hlow
        go_wp2
        go_round
        case rel => exact ⟨p + 1, by omega, by go_num, HN⟩
        case measure => simp [intOf]; omega
      by_cases h_two : 194 ≤ byteAt s p ∧ byteAt s p ≤ 223
      · obtain ⟨a1, a2⟩ := h_two
        have hB1 : 194 ≤ ((s[p]'hps).toNat : Int) := by omega
        have hB2 : ((s[p]'hps).toNat : Int) ≤ 223 := by omega
        have e0 : decide (((s[p]'hps).toNat : Int) < 128) = false := decide_eq_false (by omega)
        have e1 : decide (194 ≤ ((s[p]'hps).toNat : Int)) = true := decide_eq_true (by omega)
        have e2 : decide (224 ≤ ((s[p]'hps).toNat : Int)) = false := decide_eq_false (by omega)
        have e3 : decide (240 ≤ ((s[p]'hps).toNat : Int)) = false := decide_eq_false (by omega)
        have e4 : decide (((s[p]'hps).toNat : Int) ≤ 223) = true := decide_eq_true (by omega)
        have e5 : decide (((s[p]'hps).toNat : Int) ≤ 239) = true := decide_eq_true (by omega)
        have e6 : decide (((s[p]'hps).toNat : Int) ≤ 244) = true := decide_eq_true (by omega)
        have e7 : (((s[p]'hps).toNat : Int) == 224) = false := beq_eq_false_iff_ne.2 (by omega)
        have e8 : (((s[p]'hps).toNat : Int) == 237) = false := beq_eq_false_iff_ne.2 (by omega)
        have e9 : (((s[p]'hps).toNat : Int) == 240) = false := beq_eq_false_iff_ne.2 (by omega)
        have e10 : (((s[p]'hps).toNat : Int) == 244) = false := beq_eq_false_iff_ne.2 (by omega)
        by_cases hsz : p + 1 < s.size
        · have hb1 := byte_of_get s (p + 1) (by omega)
          by_cases hc1 : 128 ≤ byteAt s (p + 1) ∧ byteAt s (p + 1) ≤ 191
          · obtain ⟨b1, b2⟩ := hc1
            have hC1 : 128 ≤ ((s[p + 1]'(by omega)).toNat : Int) := by omega
            have hC2 : ((s[p + 1]'(by omega)).toNat : Int) ≤ 191 := by omega
            have HN := Lib.hid (VRel.two HV.out hsz a1 a2 b1 b2 (ContTo.start s p))
            clear hb0 hb1 a1 a2 b1 b2 hlow
            go_wp2_with fail
            refine (isCont_yes _ (by omega) (by omega) _).mono ?_
            rintro e w1 ⟨rfl, rfl⟩
            go_wp2
            go_round
            case rel => exact ⟨p + 2, by omega, by go_num, HN⟩
            case measure => simp [intOf]; omega
          · have hD : ((s[p + 1]'(by omega)).toNat : Int) < 128 ∨ 191 < ((s[p + 1]'(by omega)).toNat : Int) := by omega
            clear hb0 hb1 hc1 a1 a2 hlow
            go_wp2_with fail
            refine (isCont_no _ hD _).mono ?_
            rintro e w1 ⟨rfl, rfl⟩
            go_wp2
            all_goals go_ret
            all_goals exact VPost.no s w
        · clear hb0 a1 a2 hlow
          go_wp2
          all_goals go_ret
          all_goals exact VPost.no s w
      by_cases h_e0 : 224 ≤ byteAt s p ∧ byteAt s p ≤ 224
      · obtain ⟨a1, a2⟩ := h_e0
        have hB1 : 224 ≤ ((s[p]'hps).toNat : Int) := by omega
        have hB2 : ((s[p]'hps).toNat : Int) ≤ 224 := by omega
        have e0 : decide (((s[p]'hps).toNat : Int) < 128) = false := decide_eq_false (by omega)
        have e1 : decide (194 ≤ ((s[p]'hps).toNat : Int)) = true := decide_eq_true (by omega)
        have e2 : decide (224 ≤ ((s[p]'hps).toNat : Int)) = true := decide_eq_true (by omega)
        have e3 : decide (240 ≤ ((s[p]'hps).toNat : Int)) = false := decide_eq_false (by omega)
        have e4 : decide (((s[p]'hps).toNat : Int) ≤ 223) = false := decide_eq_false (by omega)
        have e5 : decide (((s[p]'hps).toNat : Int) ≤ 239) = true := decide_eq_true (by omega)
        have e6 : decide (((s[p]'hps).toNat : Int) ≤ 244) = true := decide_eq_true (by omega)
        have e7 : (((s[p]'hps).toNat : Int) == 224) = true := beq_iff_eq.2 (by omega)
        have e8 : (((s[p]'hps).toNat : Int) == 237) = false := beq_eq_false_iff_ne.2 (by omega)
        have e9 : (((s[p]'hps).toNat : Int) == 240) = false := beq_eq_false_iff_ne.2 (by omega)
        have e10 : (((s[p]'hps).toNat : Int) == 244) = false := beq_eq_false_iff_ne.2 (by omega)
        by_cases hsz : p + 2 < s.size
        · have hb1 := byte_of_get s (p + 1) (by omega)
          by_cases hc1 : 160 ≤ byteAt s (p + 1) ∧ byteAt s (p + 1) ≤ 191
          · obtain ⟨b1, b2⟩ := hc1
            have hC1 : 160 ≤ ((s[p + 1]'(by omega)).toNat : Int) := by omega
            have hC2 : ((s[p + 1]'(by omega)).toNat : Int) ≤ 191 := by omega
            have hC3 : decide (((s[p + 1]'(by omega)).toNat : Int) < 160) = false := decide_eq_false (by omega)
            have hC4 : decide (191 < ((s[p + 1]'(by omega)).toNat : Int)) = false := decide_eq_false (by omega)
            have hb2 := byte_of_get s (p + 2) (by omega)
            by_cases hc2 : 128 ≤ byteAt s (p + 2) ∧ byteAt s (p + 2) ≤ 191
            · obtain ⟨d21, d22⟩ := hc2
              have hD21 : 128 ≤ ((s[p + 2]'(by omega)).toNat : Int) := by omega
              have hD22 : ((s[p + 2]'(by omega)).toNat : Int) ≤ 191 := by omega
              have HN := Lib.hid (VRel.e0 HV.out hsz a1 a2 b1 b2 ((ContTo.start s p).next d21 d22))
              clear hb0 hb1 a1 a2 b1 b2 hlow hb2 d21 d22
              go_wp2_with fail
              refine (isCont_yes _ (by omega) (by omega) _).mono ?_
              rintro e w1 ⟨rfl, rfl⟩
              go_wp2
              go_round
              case rel => exact ⟨p + 3, by omega, by go_num, HN⟩
              case measure => simp [intOf]; omega
            · have hD : ((s[p + 2]'(by omega)).toNat : Int) < 128 ∨ 191 < ((s[p + 2]'(by omega)).toNat : Int) := by omega
              clear hb0 hb1 a1 a2 b1 b2 hlow hc2 hb2
              go_wp2_with fail
              refine (isCont_no _ hD _).mono ?_
              rintro e w1 ⟨rfl, rfl⟩
              go_wp2
              all_goals go_ret
              all_goals exact VPost.no s w
          · have hD : ((s[p + 1]'(by omega)).toNat : Int) < 160 ∨ 191 < ((s[p + 1]'(by omega)).toNat : Int) := by omega
            clear hb0 hb1 hc1 a1 a2 hlow
            rcases hD with hD | hD
            · go_wp2
              all_goals go_ret
              all_goals exact VPost.no s w
            · have hD' : decide (((s[p + 1]'(by omega)).toNat : Int) < 160) = false := decide_eq_false (by omega)
              go_wp2
              all_goals go_ret
              all_goals exact VPost.no s w
        · clear hb0 a1 a2 hlow
          go_wp2
          all_goals go_ret
          all_goals exact VPost.no s w
      by_cases h_e1 : 225 ≤ byteAt s p ∧ byteAt s p ≤ 236
      · obtain ⟨a1, a2⟩ := h_e1
        have hB1 : 225 ≤ ((s[p]'hps).toNat : Int) := by omega
        have hB2 : ((s[p]'hps).toNat : Int) ≤ 236 := by omega
        have e0 : decide (((s[p]'hps).toNat : Int) < 128) = false := decide_eq_false (by omega)
        have e1 : decide (194 ≤ ((s[p]'hps).toNat : Int)) = true := decide_eq_true (by omega)
        have e2 : decide (224 ≤ ((s[p]'hps).toNat : Int)) = true := decide_eq_true (by omega)
        have e3 : decide (240 ≤ ((s[p]'hps).toNat : Int)) = false := decide_eq_false (by omega)
        have e4 : decide (((s[p]'hps).toNat : Int) ≤ 223) = false := decide_eq_false (by omega)
        have e5 : decide (((s[p]'hps).toNat : Int) ≤ 239) = true := decide_eq_true (by omega)
        have e6 : decide (((s[p]'hps).toNat : Int) ≤ 244) = true := decide_eq_true (by omega)
        have e7 : (((s[p]'hps).toNat : Int) == 224) = false := beq_eq_false_iff_ne.2 (by omega)
        have e8 : (((s[p]'hps).toNat : Int) == 237) = false := beq_eq_false_iff_ne.2 (by omega)
        have e9 : (((s[p]'hps).toNat : Int) == 240) = false := beq_eq_false_iff_ne.2 (by omega)
        have e10 : (((s[p]'hps).toNat : Int) == 244) = false := beq_eq_false_iff_ne.2 (by omega)
        by_cases hsz : p + 2 < s.size
        · have hb1 := byte_of_get s (p + 1) (by omega)
          by_cases hc1 : 128 ≤ byteAt s (p + 1) ∧ byteAt s (p + 1) ≤ 191
          · obtain ⟨b1, b2⟩ := hc1
            have hC1 : 128 ≤ ((s[p + 1]'(by omega)).toNat : Int) := by omega
            have hC2 : ((s[p + 1]'(by omega)).toNat : Int) ≤ 191 := by omega
            have hC3 : decide (((s[p + 1]'(by omega)).toNat : Int) < 128) = false := decide_eq_false (by omega)
            have hC4 : decide (191 < ((s[p + 1]'(by omega)).toNat : Int)) = false := decide_eq_false (by omega)
            have hb2 := byte_of_get s (p + 2) (by omega)
            by_cases hc2 : 128 ≤ byteAt s (p + 2) ∧ byteAt s (p + 2) ≤ 191
            · obtain ⟨d21, d22⟩ := hc2
              have hD21 : 128 ≤ ((s[p + 2]'(by omega)).toNat : Int) := by omega
              have hD22 : ((s[p + 2]'(by omega)).toNat : Int) ≤ 191 := by omega
              have HN := Lib.hid (VRel.e1 HV.out hsz a1 a2 b1 b2 ((ContTo.start s p).next d21 d22))
              clear hb0 hb1 a1 a2 b1 b2 hlow hb2 d21 d22
              go_wp2_with fail
              refine (isCont_yes _ (by omega) (by omega) _).mono ?_
              rintro e w1 ⟨rfl, rfl⟩
              go_wp2
              go_round
              case rel => exact ⟨p + 3, by omega, by go_num, HN⟩
              case measure => simp [intOf]; omega
            · have hD : ((s[p + 2]'(by omega)).toNat : Int) < 128 ∨ 191 < ((s[p + 2]'(by omega)).toNat : Int) := by omega
              clear hb0 hb1 a1 a2 b1 b2 hlow hc2 hb2
              go_wp2_with fail
              refine (isCont_no _ hD _).mono ?_
              rintro e w1 ⟨rfl, rfl⟩
              go_wp2
              all_goals go_ret
              all_goals exact VPost.no s w
          · have hD : ((s[p + 1]'(by omega)).toNat : Int) < 128 ∨ 191 < ((s[p + 1]'(by omega)).toNat : Int) := by omega
            clear hb0 hb1 hc1 a1 a2 hlow
            rcases hD with hD | hD
            · go_wp2
              all_goals go_ret
              all_goals exact VPost.no s w
            · have hD' : decide (((s[p + 1]'(by omega)).toNat : Int) < 128) = false := decide_eq_false (by omega)
              go_wp2
              all_goals go_ret
              all_goals exact VPost.no s w
        · clear hb0 a1 a2 hlow
          go_wp2
          all_goals go_ret
          all_goals exact VPost.no s w
      by_cases h_ed : 237 ≤ byteAt s p ∧ byteAt s p ≤ 237
      · obtain ⟨a1, a2⟩ := h_ed
        have hB1 : 237 ≤ ((s[p]'hps).toNat : Int) := by omega
        have hB2 : ((s[p]'hps).toNat : Int) ≤ 237 := by omega
        have e0 : decide (((s[p]'hps).toNat : Int) < 128) = false := decide_eq_false (by omega)
        have e1 : decide (194 ≤ ((s[p]'hps).toNat : Int)) = true := decide_eq_true (by omega)
        have e2 : decide (224 ≤ ((s[p]'hps).toNat : Int)) = true := decide_eq_true (by omega)
        have e3 : decide (240 ≤ ((s[p]'hps).toNat : Int)) = false := decide_eq_false (by omega)
        have e4 : decide (((s[p]'hps).toNat : Int) ≤ 223) = false := decide_eq_false (by omega)
        have e5 : decide (((s[p]'hps).toNat : Int) ≤ 239) = true := decide_eq_true (by omega)
        have e6 : decide (((s[p]'hps).toNat : Int) ≤ 244) = true := decide_eq_true (by omega)
        have e7 : (((s[p]'hps).toNat : Int) == 224) = false := beq_eq_false_iff_ne.2 (by omega)
        have e8 : (((s[p]'hps).toNat : Int) == 237) = true := beq_iff_eq.2 (by omega)
        have e9 : (((s[p]'hps).toNat : Int) == 240) = false := beq_eq_false_iff_ne.2 (by omega)
        have e10 : (((s[p]'hps).toNat : Int) == 244) = false := beq_eq_false_iff_ne.2 (by omega)
        by_cases hsz : p + 2 < s.size
        · have hb1 := byte_of_get s (p + 1) (by omega)
          by_cases hc1 : 128 ≤ byteAt s (p + 1) ∧ byteAt s (p + 1) ≤ 159
          · obtain ⟨b1, b2⟩ := hc1
            have hC1 : 128 ≤ ((s[p + 1]'(by omega)).toNat : Int) := by omega
            have hC2 : ((s[p + 1]'(by omega)).toNat : Int) ≤ 159 := by omega
            have hC3 : decide (((s[p + 1]'(by omega)).toNat : Int) < 128) = false := decide_eq_false (by omega)
            have hC4 : decide (159 < ((s[p + 1]'(by omega)).toNat : Int)) = false := decide_eq_false (by omega)
            have hb2 := byte_of_get s (p + 2) (by omega)
            by_cases hc2 : 128 ≤ byteAt s (p + 2) ∧ byteAt s (p + 2) ≤ 191
            · obtain ⟨d21, d22⟩ := hc2
              have hD21 : 128 ≤ ((s[p + 2]'(by omega)).toNat : Int) := by omega
              have hD22 : ((s[p + 2]'(by omega)).toNat : Int) ≤ 191 := by omega
              have HN := Lib.hid (VRel.ed HV.out hsz a1 a2 b1 b2 ((ContTo.start s p).next d21 d22))
              clear hb0 hb1 a1 a2 b1 b2 hlow hb2 d21 d22
              go_wp2_with fail
              refine (isCont_yes _ (by omega) (by omega) _).mono ?_
              rintro e w1 ⟨rfl, rfl⟩
              go_wp2
              go_round
              case rel => exact ⟨p + 3, by omega, by go_num, HN⟩
              case measure => simp [intOf]; omega
            · have hD : ((s[p + 2]'(by omega)).toNat : Int) < 128 ∨ 191 < ((s[p + 2]'(by omega)).toNat : Int) := by omega
              clear hb0 hb1 a1 a2 b1 b2 hlow hc2 hb2
              go_wp2_with fail
              refine (isCont_no _ hD _).mono ?_
              rintro e w1 ⟨rfl, rfl⟩
              go_wp2
              all_goals go_ret
              all_goals exact VPost.no s w
          · have hD : ((s[p + 1]'(by omega)).toNat : Int) < 128 ∨ 159 < ((s[p + 1]'(by omega)).toNat : Int) := by omega
            clear hb0 hb1 hc1 a1 a2 hlow
            rcases hD with hD | hD
            · go_wp2
              all_goals go_ret
              all_goals exact VPost.no s w
            · have hD' : decide (((s[p + 1]'(by omega)).toNat : Int) < 128) = false := decide_eq_false (by omega)
              go_wp2
              all_goals go_ret
              all_goals exact VPost.no s w
        · clear hb0 a1 a2 hlow
          go_wp2
          all_goals go_ret
          all_goals exact VPost.no s w
      by_cases h_ee : 238 ≤ byteAt s p ∧ byteAt s p ≤ 238
      · obtain ⟨a1, a2⟩ := h_ee
        have hB1 : 238 ≤ ((s[p]'hps).toNat : Int) := by omega
        have hB2 : ((s[p]'hps).toNat : Int) ≤ 238 := by omega
        have e0 : decide (((s[p]'hps).toNat : Int) < 128) = false := decide_eq_false (by omega)
        have e1 : decide (194 ≤ ((s[p]'hps).toNat : Int)) = true := decide_eq_true (by omega)
        have e2 : decide (224 ≤ ((s[p]'hps).toNat : Int)) = true := decide_eq_true (by omega)
        have e3 : decide (240 ≤ ((s[p]'hps).toNat : Int)) = false := decide_eq_false (by omega)
        have e4 : decide (((s[p]'hps).toNat : Int) ≤ 223) = false := decide_eq_false (by omega)
        have e5 : decide (((s[p]'hps).toNat : Int) ≤ 239) = true := decide_eq_true (by omega)
        have e6 : decide (((s[p]'hps).toNat : Int) ≤ 244) = true := decide_eq_true (by omega)
        have e7 : (((s[p]'hps).toNat : Int) == 224) = false := beq_eq_false_iff_ne.2 (by omega)
        have e8 : (((s[p]'hps).toNat : Int) == 237) = false := beq_eq_false_iff_ne.2 (by omega)
        have e9 : (((s[p]'hps).toNat : Int) == 240) = false := beq_eq_false_iff_ne.2 (by omega)
        have e10 : (((s[p]'hps).toNat : Int) == 244) = false := beq_eq_false_iff_ne.2 (by omega)
        by_cases hsz : p + 2 < s.size
        · have hb1 := byte_of_get s (p + 1) (by omega)
          by_cases hc1 : 128 ≤ byteAt s (p + 1) ∧ byteAt s (p + 1) ≤ 191
          · obtain ⟨b1, b2⟩ := hc1
            have hC1 : 128 ≤ ((s[p + 1]'(by omega)).toNat : Int) := by omega
            have hC2 : ((s[p + 1]'(by omega)).toNat : Int) ≤ 191 := by omega
            have hC3 : decide (((s[p + 1]'(by omega)).toNat : Int) < 128) = false := decide_eq_false (by omega)
            have hC4 : decide (191 < ((s[p + 1]'(by omega)).toNat : Int)) = false := decide_eq_false (by omega)
            have hb2 := byte_of_get s (p + 2) (by omega)
            by_cases hc2 : 128 ≤ byteAt s (p + 2) ∧ byteAt s (p + 2) ≤ 191
            · obtain ⟨d21, d22⟩ := hc2
              have hD21 : 128 ≤ ((s[p + 2]'(by omega)).toNat : Int) := by omega
              have hD22 : ((s[p + 2]'(by omega)).toNat : Int) ≤ 191 := by omega
              have HN := Lib.hid (VRel.ee HV.out hsz a1 a2 b1 b2 ((ContTo.start s p).next d21 d22))
              clear hb0 hb1 a1 a2 b1 b2 hlow hb2 d21 d22
              go_wp2_with fail
              refine (isCont_yes _ (by omega) (by omega) _).mono ?_
              rintro e w1 ⟨rfl, rfl⟩
              go_wp2
              go_round
              case rel => exact ⟨p + 3, by omega, by go_num, HN⟩
              case measure => simp [intOf]; omega
            · have hD : ((s[p + 2]'(by omega)).toNat : Int) < 128 ∨ 191 < ((s[p + 2]'(by omega)).toNat : Int) := by omega
              clear hb0 hb1 a1 a2 b1 b2 hlow hc2 hb2
              go_wp2_with fail
              refine (isCont_no _ hD _).mono ?_
              rintro e w1 ⟨rfl, rfl⟩
              go_wp2
              all_goals go_ret
              all_goals exact VPost.no s w
          · have hD : ((s[p + 1]'(by omega)).toNat : Int) < 128 ∨ 191 < ((s[p + 1]'(by omega)).toNat : Int) := by omega
            clear hb0 hb1 hc1 a1 a2 hlow
            rcases hD with hD | hD
            · go_wp2
              all_goals go_ret
              all_goals exact VPost.no s w
            · have hD' : decide (((s[p + 1]'(by omega)).toNat : Int) < 128) = false := decide_eq_false (by omega)
              go_wp2
              all_goals go_ret
              all_goals exact VPost.no s w
        · clear hb0 a1 a2 hlow
          go_wp2
          all_goals go_ret
          all_goals exact VPost.no s w
      by_cases h_ef : 239 ≤ byteAt s p ∧ byteAt s p ≤ 239
      · obtain ⟨a1, a2⟩ := h_ef
        have hB1 : 239 ≤ ((s[p]'hps).toNat : Int) := by omega
        have hB2 : ((s[p]'hps).toNat : Int) ≤ 239 := by omega
        have e0 : decide (((s[p]'hps).toNat : Int) < 128) = false := decide_eq_false (by omega)
        have e1 : decide (194 ≤ ((s[p]'hps).toNat : Int)) = true := decide_eq_true (by omega)
        have e2 : decide (224 ≤ ((s[p]'hps).toNat : Int)) = true := decide_eq_true (by omega)
        have e3 : decide (240 ≤ ((s[p]'hps).toNat : Int)) = false := decide_eq_false (by omega)
        have e4 : decide (((s[p]'hps).toNat : Int) ≤ 223) = false := decide_eq_false (by omega)
        have e5 : decide (((s[p]'hps).toNat : Int) ≤ 239) = true := decide_eq_true (by omega)
        have e6 : decide (((s[p]'hps).toNat : Int) ≤ 244) = true := decide_eq_true (by omega)
        have e7 : (((s[p]'hps).toNat : Int) == 224) = false := beq_eq_false_iff_ne.2 (by omega)
        have e8 : (((s[p]'hps).toNat : Int) == 237) = false := beq_eq_false_iff_ne.2 (by omega)
        have e9 : (((s[p]'hps).toNat : Int) == 240) = false := beq_eq_false_iff_ne.2 (by omega)
        have e10 : (((s[p]'hps).toNat : Int) == 244) = false := beq_eq_false_iff_ne.2 (by omega)
        by_cases hsz : p + 2 < s.size
        · have hb1 := byte_of_get s (p + 1) (by omega)
          by_cases hc1 : 128 ≤ byteAt s (p + 1) ∧ byteAt s (p + 1) ≤ 191
          · obtain ⟨b1, b2⟩ := hc1
            have hC1 : 128 ≤ ((s[p + 1]'(by omega)).toNat : Int) := by omega
            have hC2 : ((s[p + 1]'(by omega)).toNat : Int) ≤ 191 := by omega
            have hC3 : decide (((s[p + 1]'(by omega)).toNat : Int) < 128) = false := decide_eq_false (by omega)
            have hC4 : decide (191 < ((s[p + 1]'(by omega)).toNat : Int)) = false := decide_eq_false (by omega)
            have hb2 := byte_of_get s (p + 2) (by omega)
            by_cases hc2 : 128 ≤ byteAt s (p + 2) ∧ byteAt s (p + 2) ≤ 191
            · obtain ⟨d21, d22⟩ := hc2
              have hD21 : 128 ≤ ((s[p + 2]'(by omega)).toNat : Int) := by omega
              have hD22 : ((s[p + 2]'(by omega)).toNat : Int) ≤ 191 := by omega
              have HN := Lib.hid (VRel.ef HV.out hsz a1 a2 b1 b2 ((ContTo.start s p).next d21 d22))
              clear hb0 hb1 a1 a2 b1 b2 hlow hb2 d21 d22
              go_wp2_with fail
              refine (isCont_yes _ (by omega) (by omega) _).mono ?_
              rintro e w1 ⟨rfl, rfl⟩
              go_wp2
              go_round
              case rel => exact ⟨p + 3, by omega, by go_num, HN⟩
              case measure => simp [intOf]; omega
            · have hD : ((s[p + 2]'(by omega)).toNat : Int) < 128 ∨ 191 < ((s[p + 2]'(by omega)).toNat : Int) := by omega
              clear hb0 hb1 a1 a2 b1 b2 hlow hc2 hb2
              go_wp2_with fail
              refine (isCont_no _ hD _).mono ?_
              rintro e w1 ⟨rfl, rfl⟩
              go_wp2
              all_goals go_ret
              all_goals exact VPost.no s w
          · have hD : ((s[p + 1]'(by omega)).toNat : Int) < 128 ∨ 191 < ((s[p + 1]'(by omega)).toNat : Int) := by omega
            clear hb0 hb1 hc1 a1 a2 hlow
            rcases hD with hD | hD
            · go_wp2
              all_goals go_ret
              all_goals exact VPost.no s w
            · have hD' : decide (((s[p + 1]'(by omega)).toNat : Int) < 128) = false := decide_eq_false (by omega)
              go_wp2
              all_goals go_ret
              all_goals exact VPost.no s w
        · clear hb0 a1 a2 hlow
          go_wp2
          all_goals go_ret
          all_goals exact VPost.no s w
      by_cases h_f0 : 240 ≤ byteAt s p ∧ byteAt s p ≤ 240
      · obtain ⟨a1, a2⟩ := h_f0
        have hB1 : 240 ≤ ((s[p]'hps).toNat : Int) := by omega
        have hB2 : ((s[p]'hps).toNat : Int) ≤ 240 := by omega
        have e0 : decide (((s[p]'hps).toNat : Int) < 128) = false := decide_eq_false (by omega)
        have e1 : decide (194 ≤ ((s[p]'hps).toNat : Int)) = true := decide_eq_true (by omega)
        have e2 : decide (224 ≤ ((s[p]'hps).toNat : Int)) = true := decide_eq_true (by omega)
        have e3 : decide (240 ≤ ((s[p]'hps).toNat : Int)) = true := decide_eq_true (by omega)
        have e4 : decide (((s[p]'hps).toNat : Int) ≤ 223) = false := decide_eq_false (by omega)
        have e5 : decide (((s[p]'hps).toNat : Int) ≤ 239) = false := decide_eq_false (by omega)
        have e6 : decide (((s[p]'hps).toNat : Int) ≤ 244) = true := decide_eq_true (by omega)
        have e7 : (((s[p]'hps).toNat : Int) == 224) = false := beq_eq_false_iff_ne.2 (by omega)
        have e8 : (((s[p]'hps).toNat : Int) == 237) = false := beq_eq_false_iff_ne.2 (by omega)
        have e9 : (((s[p]'hps).toNat : Int) == 240) = true := beq_iff_eq.2 (by omega)
        have e10 : (((s[p]'hps).toNat : Int) == 244) = false := beq_eq_false_iff_ne.2 (by omega)
        by_cases hsz : p + 3 < s.size
        · have hb1 := byte_of_get s (p + 1) (by omega)
          by_cases hc1 : 144 ≤ byteAt s (p + 1) ∧ byteAt s (p + 1) ≤ 191
          · obtain ⟨b1, b2⟩ := hc1
            have hC1 : 144 ≤ ((s[p + 1]'(by omega)).toNat : Int) := by omega
            have hC2 : ((s[p + 1]'(by omega)).toNat : Int) ≤ 191 := by omega
            have hC3 : decide (((s[p + 1]'(by omega)).toNat : Int) < 144) = false := decide_eq_false (by omega)
            have hC4 : decide (191 < ((s[p + 1]'(by omega)).toNat : Int)) = false := decide_eq_false (by omega)
            have hb2 := byte_of_get s (p + 2) (by omega)
            by_cases hc2 : 128 ≤ byteAt s (p + 2) ∧ byteAt s (p + 2) ≤ 191
            · obtain ⟨d21, d22⟩ := hc2
              have hD21 : 128 ≤ ((s[p + 2]'(by omega)).toNat : Int) := by omega
              have hD22 : ((s[p + 2]'(by omega)).toNat : Int) ≤ 191 := by omega
              have hb3 := byte_of_get s (p + 3) (by omega)
              by_cases hc3 : 128 ≤ byteAt s (p + 3) ∧ byteAt s (p + 3) ≤ 191
              · obtain ⟨d31, d32⟩ := hc3
                have hD31 : 128 ≤ ((s[p + 3]'(by omega)).toNat : Int) := by omega
                have hD32 : ((s[p + 3]'(by omega)).toNat : Int) ≤ 191 := by omega
                have HN := Lib.hid (VRel.f0 HV.out hsz a1 a2 b1 b2 (((ContTo.start s p).next d21 d22).next d31 d32))
                clear hb0 hb1 a1 a2 b1 b2 hlow hb2 d21 d22 hb3 d31 d32
                go_wp2_with fail
                refine (isCont_yes _ (by omega) (by omega) _).mono ?_
                rintro e w1 ⟨rfl, rfl⟩
                go_wp2_with fail
                refine (isCont_yes _ (by omega) (by omega) _).mono ?_
                rintro e w1 ⟨rfl, rfl⟩
                go_wp2
                go_round
                case rel => exact ⟨p + 4, by omega, by go_num, HN⟩
                case measure => simp [intOf]; omega
              · have hD : ((s[p + 3]'(by omega)).toNat : Int) < 128 ∨ 191 < ((s[p + 3]'(by omega)).toNat : Int) := by omega
                clear hb0 hb1 a1 a2 b1 b2 hlow hc3 hb2 hb3 d21 d22
                go_wp2_with fail
                refine (isCont_yes _ (by omega) (by omega) _).mono ?_
                rintro e w1 ⟨rfl, rfl⟩
                go_wp2_with fail
                refine (isCont_no _ hD _).mono ?_
                rintro e w1 ⟨rfl, rfl⟩
                go_wp2
                all_goals go_ret
                all_goals exact VPost.no s w
            · have hD : ((s[p + 2]'(by omega)).toNat : Int) < 128 ∨ 191 < ((s[p + 2]'(by omega)).toNat : Int) := by omega
              clear hb0 hb1 a1 a2 b1 b2 hlow hc2 hb2
              go_wp2_with fail
              refine (isCont_no _ hD _).mono ?_
              rintro e w1 ⟨rfl, rfl⟩
              go_wp2
              all_goals go_ret
              all_goals exact VPost.no s w
          · have hD : ((s[p + 1]'(by omega)).toNat : Int) < 144 ∨ 191 < ((s[p + 1]'(by omega)).toNat : Int) := by omega
            clear hb0 hb1 hc1 a1 a2 hlow
            rcases hD with hD | hD
            · go_wp2
              all_goals go_ret
              all_goals exact VPost.no s w
            · have hD' : decide (((s[p + 1]'(by omega)).toNat : Int) < 144) = false := decide_eq_false (by omega)
              go_wp2
              all_goals go_ret
              all_goals exact VPost.no s w
        · clear hb0 a1 a2 hlow
          go_wp2
          all_goals go_ret
          all_goals exact VPost.no s w
      by_cases h_f1 : 241 ≤ byteAt s p ∧ byteAt s p ≤ 243
      · obtain ⟨a1, a2⟩ := h_f1
        have hB1 : 241 ≤ ((s[p]'hps).toNat : Int) := by omega
        have hB2 : ((s[p]'hps).toNat : Int) ≤ 243 := by omega
        have e0 : decide (((s[p]'hps).toNat : Int) < 128) = false := decide_eq_false (by omega)
        have e1 : decide (194 ≤ ((s[p]'hps).toNat : Int)) = true := decide_eq_true (by omega)
        have e2 : decide (224 ≤ ((s[p]'hps).toNat : Int)) = true := decide_eq_true (by omega)
        have e3 : decide (240 ≤ ((s[p]'hps).toNat : Int)) = true := decide_eq_true (by omega)
        have e4 : decide (((s[p]'hps).toNat : Int) ≤ 223) = false := decide_eq_false (by omega)
        have e5 : decide (((s[p]'hps).toNat : Int) ≤ 239) = false := decide_eq_false (by omega)
        have e6 : decide (((s[p]'hps).toNat : Int) ≤ 244) = true := decide_eq_true (by omega)
        have e7 : (((s[p]'hps).toNat : Int) == 224) = false := beq_eq_false_iff_ne.2 (by omega)
        have e8 : (((s[p]'hps).toNat : Int) == 237) = false := beq_eq_false_iff_ne.2 (by omega)
        have e9 : (((s[p]'hps).toNat : Int) == 240) = false := beq_eq_false_iff_ne.2 (by omega)
        have e10 : (((s[p]'hps).toNat : Int) == 244) = false := beq_eq_false_iff_ne.2 (by omega)
        by_cases hsz : p + 3 < s.size
        · have hb1 := byte_of_get s (p + 1) (by omega)
          by_cases hc1 : 128 ≤ byteAt s (p + 1) ∧ byteAt s (p + 1) ≤ 191
          · obtain ⟨b1, b2⟩ := hc1
            have hC1 : 128 ≤ ((s[p + 1]'(by omega)).toNat : Int) := by omega
            have hC2 : ((s[p + 1]'(by omega)).toNat : Int) ≤ 191 := by omega
            have hC3 : decide (((s[p + 1]'(by omega)).toNat : Int) < 128) = false := decide_eq_false (by omega)
            have hC4 : decide (191 < ((s[p + 1]'(by omega)).toNat : Int)) = false := decide_eq_false (by omega)
            have hb2 := byte_of_get s (p + 2) (by omega)
            by_cases hc2 : 128 ≤ byteAt s (p + 2) ∧ byteAt s (p + 2) ≤ 191
            · obtain ⟨d21, d22⟩ := hc2
              have hD21 : 128 ≤ ((s[p + 2]'(by omega)).toNat : Int) := by omega
              have hD22 : ((s[p + 2]'(by omega)).toNat : Int) ≤ 191 := by omega
              have hb3 := byte_of_get s (p + 3) (by omega)
              by_cases hc3 : 128 ≤ byteAt s (p + 3) ∧ byteAt s (p + 3) ≤ 191
              · obtain ⟨d31, d32⟩ := hc3
                have hD31 : 128 ≤ ((s[p + 3]'(by omega)).toNat : Int) := by omega
                have hD32 : ((s[p + 3]'(by omega)).toNat : Int) ≤ 191 := by omega
                have HN := Lib.hid (VRel.f1 HV.out hsz a1 a2 b1 b2 (((ContTo.start s p).next d21 d22).next d31 d32))
                clear hb0 hb1 a1 a2 b1 b2 hlow hb2 d21 d22 hb3 d31 d32
                go_wp2_with fail
                refine (isCont_yes _ (by omega) (by omega) _).mono ?_
                rintro e w1 ⟨rfl, rfl⟩
                go_wp2_with fail
                refine (isCont_yes _ (by omega) (by omega) _).mono ?_
                rintro e w1 ⟨rfl, rfl⟩
                go_wp2
                go_round
                case rel => exact ⟨p + 4, by omega, by go_num, HN⟩
                case measure => simp [intOf]; omega
              · have hD : ((s[p + 3]'(by omega)).toNat : Int) < 128 ∨ 191 < ((s[p + 3]'(by omega)).toNat : Int) := by omega
                clear hb0 hb1 a1 a2 b1 b2 hlow hc3 hb2 hb3 d21 d22
                go_wp2_with fail
                refine (isCont_yes _ (by omega) (by omega) _).mono ?_
                rintro e w1 ⟨rfl, rfl⟩
                go_wp2_with fail
                refine (isCont_no _ hD _).mono ?_
                rintro e w1 ⟨rfl, rfl⟩
                go_wp2
                all_goals go_ret
                all_goals exact VPost.no s w
            · have hD : ((s[p + 2]'(by omega)).toNat : Int) < 128 ∨ 191 < ((s[p + 2]'(by omega)).toNat : Int) := by omega
              clear hb0 hb1 a1 a2 b1 b2 hlow hc2 hb2
              go_wp2_with fail
              refine (isCont_no _ hD _).mono ?_
              rintro e w1 ⟨rfl, rfl⟩
              go_wp2
              all_goals go_ret
              all_goals exact VPost.no s w
          · have hD : ((s[p + 1]'(by omega)).toNat : Int) < 128 ∨ 191 < ((s[p + 1]'(by omega)).toNat : Int) := by omega
            clear hb0 hb1 hc1 a1 a2 hlow
            rcases hD with hD | hD
            · go_wp2
              all_goals go_ret
              all_goals exact VPost.no s w
            · have hD' : decide (((s[p + 1]'(by omega)).toNat : Int) < 128) = false := decide_eq_false (by omega)
              go_wp2
              all_goals go_ret
              all_goals exact VPost.no s w
        · clear hb0 a1 a2 hlow
          go_wp2
          all_goals go_ret
          all_goals exact VPost.no s w
      by_cases h_f4 : 244 ≤ byteAt s p ∧ byteAt s p ≤ 244
      · obtain ⟨a1, a2⟩ := h_f4
        have hB1 : 244 ≤ ((s[p]'hps).toNat : Int) := by omega
        have hB2 : ((s[p]'hps).toNat : Int) ≤ 244 := by omega
        have e0 : decide (((s[p]'hps).toNat : Int) < 128) = false := decide_eq_false (by omega)
        have e1 : decide (194 ≤ ((s[p]'hps).toNat : Int)) = true := decide_eq_true (by omega)
        have e2 : decide (224 ≤ ((s[p]'hps).toNat : Int)) = true := decide_eq_true (by omega)
        have e3 : decide (240 ≤ ((s[p]'hps).toNat : Int)) = true := decide_eq_true (by omega)
        have e4 : decide (((s[p]'hps).toNat : Int) ≤ 223) = false := decide_eq_false (by omega)
        have e5 : decide (((s[p]'hps).toNat : Int) ≤ 239) = false := decide_eq_false (by omega)
        have e6 : decide (((s[p]'hps).toNat : Int) ≤ 244) = true := decide_eq_true (by omega)
        have e7 : (((s[p]'hps).toNat : Int) == 224) = false := beq_eq_false_iff_ne.2 (by omega)
        have e8 : (((s[p]'hps).toNat : Int) == 237) = false := beq_eq_false_iff_ne.2 (by omega)
        have e9 : (((s[p]'hps).toNat : Int) == 240) = false := beq_eq_false_iff_ne.2 (by omega)
        have e10 : (((s[p]'hps).toNat : Int) == 244) = true := beq_iff_eq.2 (by omega)
        by_cases hsz : p + 3 < s.size
        · have hb1 := byte_of_get s (p + 1) (by omega)
          by_cases hc1 : 128 ≤ byteAt s (p + 1) ∧ byteAt s (p + 1) ≤ 143
          · obtain ⟨b1, b2⟩ := hc1
            have hC1 : 128 ≤ ((s[p + 1]'(by omega)).toNat : Int) := by omega
            have hC2 : ((s[p + 1]'(by omega)).toNat : Int) ≤ 143 := by omega
            have hC3 : decide (((s[p + 1]'(by omega)).toNat : Int) < 128) = false := decide_eq_false (by omega)
            have hC4 : decide (143 < ((s[p + 1]'(by omega)).toNat : Int)) = false := decide_eq_false (by omega)
            have hb2 := byte_of_get s (p + 2) (by omega)
            by_cases hc2 : 128 ≤ byteAt s (p + 2) ∧ byteAt s (p + 2) ≤ 191
            · obtain ⟨d21, d22⟩ := hc2
              have hD21 : 128 ≤ ((s[p + 2]'(by omega)).toNat : Int) := by omega
              have hD22 : ((s[p + 2]'(by omega)).toNat : Int) ≤ 191 := by omega
              have hb3 := byte_of_get s (p + 3) (by omega)
              by_cases hc3 : 128 ≤ byteAt s (p + 3) ∧ byteAt s (p + 3) ≤ 191
              · obtain ⟨d31, d32⟩ := hc3
                have hD31 : 128 ≤ ((s[p + 3]'(by omega)).toNat : Int) := by omega
                have hD32 : ((s[p + 3]'(by omega)).toNat : Int) ≤ 191 := by omega
                have HN := Lib.hid (VRel.f4 HV.out hsz a1 a2 b1 b2 (((ContTo.start s p).next d21 d22).next d31 d32))
                clear hb0 hb1 a1 a2 b1 b2 hlow hb2 d21 d22 hb3 d31 d32
                go_wp2_with fail
                refine (isCont_yes _ (by omega) (by omega) _).mono ?_
                rintro e w1 ⟨rfl, rfl⟩
                go_wp2_with fail
                refine (isCont_yes _ (by omega) (by omega) _).mono ?_
                rintro e w1 ⟨rfl, rfl⟩
                go_wp2
                go_round
                case rel => exact ⟨p + 4, by omega, by go_num, HN⟩
                case measure => simp [intOf]; omega
              · have hD : ((s[p + 3]'(by omega)).toNat : Int) < 128 ∨ 191 < ((s[p + 3]'(by omega)).toNat : Int) := by omega
                clear hb0 hb1 a1 a2 b1 b2 hlow hc3 hb2 hb3 d21 d22
                go_wp2_with fail
                refine (isCont_yes _ (by omega) (by omega) _).mono ?_
                rintro e w1 ⟨rfl, rfl⟩
                go_wp2_with fail
                refine (isCont_no _ hD _).mono ?_
                rintro e w1 ⟨rfl, rfl⟩
                go_wp2
                all_goals go_ret
                all_goals exact VPost.no s w
            · have hD : ((s[p + 2]'(by omega)).toNat : Int) < 128 ∨ 191 < ((s[p + 2]'(by omega)).toNat : Int) := by omega
              clear hb0 hb1 a1 a2 b1 b2 hlow hc2 hb2
              go_wp2_with fail
              refine (isCont_no _ hD _).mono ?_
              rintro e w1 ⟨rfl, rfl⟩
              go_wp2
              all_goals go_ret
              all_goals exact VPost.no s w
          · have hD : ((s[p + 1]'(by omega)).toNat : Int) < 128 ∨ 143 < ((s[p + 1]'(by omega)).toNat : Int) := by omega
            clear hb0 hb1 hc1 a1 a2 hlow
            rcases hD with hD | hD
            · go_wp2
              all_goals go_ret
              all_goals exact VPost.no s w
            · have hD' : decide (((s[p + 1]'(by omega)).toNat : Int) < 128) = false := decide_eq_false (by omega)
              go_wp2
              all_goals go_ret
              all_goals exact VPost.no s w
        · clear hb0 a1 a2 hlow
          go_wp2
          all_goals go_ret
          all_goals exact VPost.no s w
      by_cases hmid : byteAt s p ≤ 193
      · have hB1 : 128 ≤ ((s[p]'hps).toNat : Int) := by omega
        have hB2 : ((s[p]'hps).toNat : Int) ≤ 193 := by omega
        have e0 : decide (((s[p]'hps).toNat : Int) < 128) = false := decide_eq_false (by omega)
        have e1 : decide (194 ≤ ((s[p]'hps).toNat : Int)) = false := decide_eq_false (by omega)
        have e2 : decide (224 ≤ ((s[p]'hps).toNat : Int)) = false := decide_eq_false (by omega)
        have e3 : decide (240 ≤ ((s[p]'hps).toNat : Int)) = false := decide_eq_false (by omega)
        have e4 : decide (((s[p]'hps).toNat : Int) ≤ 223) = true := decide_eq_true (by omega)
        have e5 : decide (((s[p]'hps).toNat : Int) ≤ 239) = true := decide_eq_true (by omega)
        have e6 : decide (((s[p]'hps).toNat : Int) ≤ 244) = true := decide_eq_true (by omega)
        have e7 : (((s[p]'hps).toNat : Int) == 224) = false := beq_eq_false_iff_ne.2 (by omega)
        have e8 : (((s[p]'hps).toNat : Int) == 237) = false := beq_eq_false_iff_ne.2 (by omega)
        have e9 : (((s[p]'hps).toNat : Int) == 240) = false := beq_eq_false_iff_ne.2 (by omega)
        have e10 : (((s[p]'hps).toNat : Int) == 244) = false := beq_eq_false_iff_ne.2 (by omega)
        clear hb0 hlow hmid h_two h_e0 h_e1 h_ed h_ee h_ef h_f0 h_f1 h_f4
        go_wp2
        all_goals go_ret
        all_goals exact VPost.no s w
      · have hB1 : 245 ≤ ((s[p]'hps).toNat : Int) := by omega
        have e0 : decide (((s[p]'hps).toNat : Int) < 128) = false := decide_eq_false (by omega)
        have e1 : decide (194 ≤ ((s[p]'hps).toNat : Int)) = true := decide_eq_true (by omega)
        have e2 : decide (224 ≤ ((s[p]'hps).toNat : Int)) = true := decide_eq_true (by omega)
        have e3 : decide (240 ≤ ((s[p]'hps).toNat : Int)) = true := decide_eq_true (by omega)
        have e4 : decide (((s[p]'hps).toNat : Int) ≤ 223) = false := decide_eq_false (by omega)
        have e5 : decide (((s[p]'hps).toNat : Int) ≤ 239) = false := decide_eq_false (by omega)
        have e6 : decide (((s[p]'hps).toNat : Int) ≤ 244) = false := decide_eq_false (by omega)
        have e7 : (((s[p]'hps).toNat : Int) == 224) = false := beq_eq_false_iff_ne.2 (by omega)
        have e8 : (((s[p]'hps).toNat : Int) == 237) = false := beq_eq_false_iff_ne.2 (by omega)
        have e9 : (((s[p]'hps).toNat : Int) == 240) = false := beq_eq_false_iff_ne.2 (by omega)
        have e10 : (((s[p]'hps).toNat : Int) == 244) = false := beq_eq_false_iff_ne.2 (by omega)
        clear hb0 hlow hmid h_two h_e0 h_e1 h_ed h_ee h_ef h_f0 h_f1 h_f4
        go_wp2
        all_goals go_ret
        all_goals exact VPost.no s w
    · obtain rfl : p = s.size := by omega
      go_wp2
      go_ret
      exact ⟨true, rfl, fun _ => HV.out.done, rfl⟩

end Go.Proofs.YtigfoghdffbfoaaDoor
