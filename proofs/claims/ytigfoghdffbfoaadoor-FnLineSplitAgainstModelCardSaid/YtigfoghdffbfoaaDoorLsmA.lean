/-
  isHWByte_b3 and stripModel_b3: the closed form over bytes.
-/
import Derived.Test.YtigfoghdffbfoaaDoorPieceM
import Derived.Test.YtigfoghdffbfoaaDoorProg
import Derived.WalkKit
import Derived.WalkSpells
import Derived.IntWalk
namespace Go.Proofs.YtigfoghdffbfoaaDoor
open Go Go.RowKit

theorem hwb (r : Int) (w : World) : Calls Tryd.prog 12 #[.int .u8 r] w fun e w' => e = .returned (.bool (isHws r)) ∧ w = w' := by
  by_cases h1 : r = 32
  · subst h1
    go_enter Tryd.func12, Tryd.ntmps12
    go_wp2
    go_ret
    exact ⟨rfl, rfl⟩
  by_cases h2 : r = 9
  · subst h2
    go_enter Tryd.func12, Tryd.ntmps12
    go_wp2
    go_ret
    exact ⟨rfl, rfl⟩
  have e1 : (r == 32) = false := beq_eq_false_iff_ne.2 h1
  have e2 : (r == 9) = false := beq_eq_false_iff_ne.2 h2
  have e3 : isHws r = (r == 13) := by unfold isHws; rw [e1, e2]; rfl
  rw [e3]
  clear e3
  go_enter Tryd.func12, Tryd.ntmps12
  go_wp2
  go_ret
  exact ⟨rfl, rfl⟩

def SMP (t : ByteArray) (mg : Int) (r : ByteArray) : Prop := SModel t.data.toList mg r.data.toList
theorem SMP.none {t : ByteArray} {mg : Int} {n p : Nat} (hn : t.data.toList.length = n) (hp : p = n) (hI : ∀ x, x < p → hwAt t.data.toList x = true) : SMP t mg ⟨#[]⟩ :=
  ⟨p, by omega, hI, .inl ⟨by omega, rfl⟩⟩
theorem SMP.some {t : ByteArray} {mg : Int} {n p q k : Nat} (hn : t.data.toList.length = n) (_hp : p ≤ n) (hI : ∀ x, x < p → hwAt t.data.toList x = true) (hp1 : p < n) (hp2 : hwAt t.data.toList p = false)
    (hq : q ≤ n) (hQ : ∀ x, x < q → hwAt t.data.toList (t.data.toList.length - 1 - x) = true) (hE : q = n ∨ hwAt t.data.toList (t.data.toList.length - 1 - q) = false)
    (hk : (k : Int) = if mg < 0 then 0 else if (p : Int) < mg then (p : Int) else mg) : SMP t mg (t.extract k (n - q)) := by
  subst hn
  refine ⟨p, by omega, hI, .inr ⟨hp1, hp2, q, k, hq, hQ, hE, hk, ?_⟩⟩
  rw [ByteArray.data_extract, Array.toList_extract, List.extract_eq_take_drop]
  exact (List.drop_take ..).symm
theorem lead_trail {t : ByteArray} {n p q : Nat} (hn : t.data.toList.length = n) (hI : ∀ x, x < p → hwAt t.data.toList x = true) (hp1 : p < n) (hp2 : hwAt t.data.toList p = false)
    (hQ : ∀ x, x < q → hwAt t.data.toList (t.data.toList.length - 1 - x) = true) (_hE : hwAt t.data.toList (t.data.toList.length - 1 - q) = false) : p ≤ n - q := by
  by_cases h : p ≤ n - q
  · exact h
  · exfalso
    have := hQ (n - 1 - p) (by omega)
    rw [hn, show n - 1 - (n - 1 - p) = p by omega, hp2] at this
    cases this

set_option maxHeartbeats 3200000 in
set_option maxRecDepth 100000 in
theorem stripModel (t : ByteArray) (mg : Int) (hs : t.size ≤ 1048576) (w : World) :
    Calls Tryd.prog 9 #[.string t, .int .i64 mg] w fun e w' => ∃ r : ByteArray, e = .returned (.string r) ∧ SMP t mg r ∧ w = w' := by
  have hn0 : t.data.toList.length = t.size := by rw [Array.length_toList]; rfl
  have hw0 : ∀ (x : Nat) (hx : x < t.size), hwAt t.data.toList x = isHws (((t[x]'hx).toNat : Nat) : Int) := fun x hx => by
    unfold hwAt
    rw [List.getD_eq_getElem?_getD, List.getElem?_eq_getElem (by omega)]
    rfl
  have HW := Lib.hid hw0
  clear hw0
  generalize hnn : t.size = n at hn0
  have HN := Lib.hid hn0
  clear hn0
  go_enter Tryd.func9, Tryd.ntmps9
  go_wp2
  go_loop [6] (fun i => ∃ p : Nat, p ≤ n ∧ i = .int .i64 p ∧ Hid (∀ x, x < p → hwAt t.data.toList x = true)) (fun i => n - (intOf i).toNat)
  case atStart => exact ⟨0, Nat.zero_le _, rfl, Lib.hid (fun x hx => absurd hx (by omega))⟩
  case round =>
    obtain ⟨p, hp, rfl, HI⟩ := hrel
    by_cases hpn : p < n
    · have hi1 : p < t.size := by omega
      have hw1 := HW.out p hi1
      generalize hb1 : (((t[p]'hi1).toNat : Nat) : Int) = c1 at hw1
      have H1 := Lib.hid (hwb c1)
      cases hh : isHws c1
      · rw [hh] at H1
        have HP1 := Lib.hid hpn
        have hpne : ((p : Int) == (n : Int)) = false := beq_eq_false_iff_ne.2 (by omega)
        have HP2 : Hid (hwAt t.data.toList p = false) := Lib.hid (by rw [hw1]; exact hh)
        go_wp2_with fail
        refine (H1.out _).mono ?_
        rintro e w1 ⟨rfl, rfl⟩
        go_wp2
        go_loop [7] (fun j => ∃ q : Nat, q ≤ n ∧ j = .int .i64 q ∧ Hid (∀ x, x < q → hwAt t.data.toList (t.data.toList.length - 1 - x) = true)) (fun j => n - (intOf j).toNat)
        case atStart => exact ⟨0, Nat.zero_le _, rfl, Lib.hid (fun x hx => absurd hx (by omega))⟩
        case round =>
          obtain ⟨q, hq, rfl, HQ⟩ := hrel
          by_cases hqn : q < n
          · have hi2 : n - 1 - q < t.size := by omega
            have hs1 : IntKind.i64.wrap ((n : Int) - 1) = (n : Int) - 1 := Go.IntWalk.i64_in _ ⟨by omega, by omega⟩
            have hs2 : IntKind.i64.wrap ((n : Int) - 1 - (q : Int)) = ((n - 1 - q : Nat) : Int) := by rw [Go.IntWalk.i64_in _ ⟨by omega, by omega⟩]; omega
            have hw2 := HW.out (n - 1 - q) hi2
            generalize hb2 : (((t[n - 1 - q]'hi2).toNat : Nat) : Int) = c2 at hw2
            have H2 := Lib.hid (hwb c2)
            cases hh2 : isHws c2
            · rw [hh2] at H2
              have HE : Hid (hwAt t.data.toList (t.data.toList.length - 1 - q) = false) := Lib.hid (by rw [HN.out, hw2]; exact hh2)
              by_cases hm0 : mg < 0
              · have HF := Lib.hid (SMP.some HN.out (by omega) HI.out HP1.out HP2.out (Nat.le_of_lt hqn) HQ.out (.inr HE.out) (k := 0) (by rw [if_pos hm0]; rfl))
                have hk1 : ((n : Int) - (q : Int)) = ((n - q : Nat) : Int) := by omega
                have hs3 : IntKind.i64.wrap ((n : Int) - (q : Int)) = ((n - q : Nat) : Int) := by rw [Go.IntWalk.i64_in _ ⟨by omega, by omega⟩]; omega
                have hlq : p ≤ n - q := by exact lead_trail HN.out HI.out HP1.out HP2.out HQ.out HE.out
                go_wp2_with fail
                refine (H2.out _).mono ?_
                rintro e w1 ⟨rfl, rfl⟩
                go_wp2
                go_ret
                exact ⟨_, rfl, HF.out, rfl⟩
              by_cases hm1 : (p : Int) < mg
              · have HF := Lib.hid (SMP.some HN.out (by omega) HI.out HP1.out HP2.out (Nat.le_of_lt hqn) HQ.out (.inr HE.out) (k := p) (by rw [if_neg hm0, if_pos hm1]))
                have hs3 : IntKind.i64.wrap ((n : Int) - (q : Int)) = ((n - q : Nat) : Int) := by rw [Go.IntWalk.i64_in _ ⟨by omega, by omega⟩]; omega
                have hlq : p ≤ n - q := by exact lead_trail HN.out HI.out HP1.out HP2.out HQ.out HE.out
                go_wp2_with fail
                refine (H2.out _).mono ?_
                rintro e w1 ⟨rfl, rfl⟩
                go_wp2
                go_ret
                exact ⟨_, rfl, HF.out, rfl⟩
              · obtain ⟨m, rfl⟩ := Int.eq_ofNat_of_zero_le (by omega : 0 ≤ mg)
                have HF := Lib.hid (SMP.some HN.out (by omega) HI.out HP1.out HP2.out (Nat.le_of_lt hqn) HQ.out (.inr HE.out) (k := m) (by rw [if_neg hm0, if_neg hm1]))
                have hs3 : IntKind.i64.wrap ((n : Int) - (q : Int)) = ((n - q : Nat) : Int) := by rw [Go.IntWalk.i64_in _ ⟨by omega, by omega⟩]; omega
                have hlq : p ≤ n - q := by exact lead_trail HN.out HI.out HP1.out HP2.out HQ.out HE.out
                go_wp2_with fail
                refine (H2.out _).mono ?_
                rintro e w1 ⟨rfl, rfl⟩
                go_wp2
                go_ret
                exact ⟨_, rfl, HF.out, rfl⟩
            · rw [hh2] at H2
              have HQ2 : Hid (∀ x, x < q + 1 → hwAt t.data.toList (t.data.toList.length - 1 - x) = true) := Lib.hid (fun x hx => by
                by_cases hxq : x < q
                · exact HQ.out x hxq
                · obtain rfl : x = q := by omega
                  rw [HN.out, hw2]; exact hh2)
              go_wp2_with fail
              refine (H2.out _).mono ?_
              rintro e w1 ⟨rfl, rfl⟩
              go_wp2
              go_round
              case rel => exact ⟨q + 1, by omega, by go_num, HQ2⟩
              case measure => simp [intOf]; omega
          · obtain rfl : q = n := by omega
            exfalso
            have := HQ.out (q - 1 - p) (by omega)
            rw [HN.out, show q - 1 - (q - 1 - p) = p by omega, HP2.out] at this
            cases this
      · rw [hh] at H1
        have HI2 : Hid (∀ x, x < p + 1 → hwAt t.data.toList x = true) := Lib.hid (fun x hx => by
          by_cases hxq : x < p
          · exact HI.out x hxq
          · obtain rfl : x = p := by omega
            rw [hw1]; exact hh)
        go_wp2_with fail
        refine (H1.out _).mono ?_
        rintro e w1 ⟨rfl, rfl⟩
        go_wp2
        go_round
        case rel => exact ⟨p + 1, by omega, by go_num, HI2⟩
        case measure => simp [intOf]; omega
    · obtain rfl : p = n := by omega
      go_wp2
      go_ret
      exact ⟨_, rfl, SMP.none HN.out rfl HI.out, rfl⟩

end Go.Proofs.YtigfoghdffbfoaaDoor
