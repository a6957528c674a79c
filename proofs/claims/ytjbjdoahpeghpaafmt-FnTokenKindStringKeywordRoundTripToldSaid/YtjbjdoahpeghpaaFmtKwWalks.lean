/-
  The walk of FnTokenKindStringKeywordRoundTrip.
-/
import Derived.Test.YtjbjdoahpeghpaaFmtRows
import Derived.Test.YtjbjdoahpeghpaaFmtTokenKindStringTableW
import Derived.WalkKit
import Derived.WalkSpells
import Derived.Lib.Hide
import Derived.Test.YtjbjdoahpeghpaaFmtTab
namespace Go.Proofs.YtjbjdoahpeghpaaFmt
open Go Go.RowKit Go.ChangeShapes Go.WideShapes

def kwKind (k : Nat) : Int := if 18 ≤ k ∧ k ≤ 35 then k else 10
theorem kwOf0 (w : World) : Calls Tryf.prog 18 #[.string (kindStr 0)] w fun e w' => e = .returned (.int .i64 (kwKind 0)) ∧ w = w' := by
  have e1 : kindStr 0 = ⟨#[34, 123, 34]⟩ := rfl
  rw [e1]
  clear e1
  go_enter Tryf.func18, Tryf.ntmps18
  go_wp2
  go_ret
  exact ⟨rfl, rfl⟩
theorem kwOf1 (w : World) : Calls Tryf.prog 18 #[.string (kindStr 1)] w fun e w' => e = .returned (.int .i64 (kwKind 1)) ∧ w = w' := by
  have e1 : kindStr 1 = ⟨#[34, 125, 34]⟩ := rfl
  rw [e1]
  clear e1
  go_enter Tryf.func18, Tryf.ntmps18
  go_wp2
  go_ret
  exact ⟨rfl, rfl⟩
theorem kwOf2 (w : World) : Calls Tryf.prog 18 #[.string (kindStr 2)] w fun e w' => e = .returned (.int .i64 (kwKind 2)) ∧ w = w' := by
  have e1 : kindStr 2 = ⟨#[34, 91, 34]⟩ := rfl
  rw [e1]
  clear e1
  go_enter Tryf.func18, Tryf.ntmps18
  go_wp2
  go_ret
  exact ⟨rfl, rfl⟩
theorem kwOf3 (w : World) : Calls Tryf.prog 18 #[.string (kindStr 3)] w fun e w' => e = .returned (.int .i64 (kwKind 3)) ∧ w = w' := by
  have e1 : kindStr 3 = ⟨#[34, 93, 34]⟩ := rfl
  rw [e1]
  clear e1
  go_enter Tryf.func18, Tryf.ntmps18
  go_wp2
  go_ret
  exact ⟨rfl, rfl⟩
theorem kwOf4 (w : World) : Calls Tryf.prog 18 #[.string (kindStr 4)] w fun e w' => e = .returned (.int .i64 (kwKind 4)) ∧ w = w' := by
  have e1 : kindStr 4 = ⟨#[34, 44, 34]⟩ := rfl
  rw [e1]
  clear e1
  go_enter Tryf.func18, Tryf.ntmps18
  go_wp2
  go_ret
  exact ⟨rfl, rfl⟩
theorem kwOf5 (w : World) : Calls Tryf.prog 18 #[.string (kindStr 5)] w fun e w' => e = .returned (.int .i64 (kwKind 5)) ∧ w = w' := by
  have e1 : kindStr 5 = ⟨#[34, 36, 34]⟩ := rfl
  rw [e1]
  clear e1
  go_enter Tryf.func18, Tryf.ntmps18
  go_wp2
  go_ret
  exact ⟨rfl, rfl⟩
theorem kwOf6 (w : World) : Calls Tryf.prog 18 #[.string (kindStr 6)] w fun e w' => e = .returned (.int .i64 (kwKind 6)) ∧ w = w' := by
  have e1 : kindStr 6 = ⟨#[34, 46, 34]⟩ := rfl
  rw [e1]
  clear e1
  go_enter Tryf.func18, Tryf.ntmps18
  go_wp2
  go_ret
  exact ⟨rfl, rfl⟩
theorem kwOf7 (w : World) : Calls Tryf.prog 18 #[.string (kindStr 7)] w fun e w' => e = .returned (.int .i64 (kwKind 7)) ∧ w = w' := by
  have e1 : kindStr 7 = ⟨#[34, 40, 34]⟩ := rfl
  rw [e1]
  clear e1
  go_enter Tryf.func18, Tryf.ntmps18
  go_wp2
  go_ret
  exact ⟨rfl, rfl⟩
theorem kwOf8 (w : World) : Calls Tryf.prog 18 #[.string (kindStr 8)] w fun e w' => e = .returned (.int .i64 (kwKind 8)) ∧ w = w' := by
  have e1 : kindStr 8 = ⟨#[34, 41, 34]⟩ := rfl
  rw [e1]
  clear e1
  go_enter Tryf.func18, Tryf.ntmps18
  go_wp2
  go_ret
  exact ⟨rfl, rfl⟩
theorem kwOf9 (w : World) : Calls Tryf.prog 18 #[.string (kindStr 9)] w fun e w' => e = .returned (.int .i64 (kwKind 9)) ∧ w = w' := by
  have e1 : kindStr 9 = ⟨#[34, 59, 34]⟩ := rfl
  rw [e1]
  clear e1
  go_enter Tryf.func18, Tryf.ntmps18
  go_wp2
  go_ret
  exact ⟨rfl, rfl⟩
theorem kwOf10 (w : World) : Calls Tryf.prog 18 #[.string (kindStr 10)] w fun e w' => e = .returned (.int .i64 (kwKind 10)) ∧ w = w' := by
  have e1 : kindStr 10 = ⟨#[73, 68, 69, 78, 84, 73, 70, 73, 69, 82]⟩ := rfl
  rw [e1]
  clear e1
  go_enter Tryf.func18, Tryf.ntmps18
  go_wp2
  go_ret
  exact ⟨rfl, rfl⟩
theorem kwOf11 (w : World) : Calls Tryf.prog 18 #[.string (kindStr 11)] w fun e w' => e = .returned (.int .i64 (kwKind 11)) ∧ w = w' := by
  have e1 : kindStr 11 = ⟨#[78, 85, 77, 66, 69, 82]⟩ := rfl
  rw [e1]
  clear e1
  go_enter Tryf.func18, Tryf.ntmps18
  go_wp2
  go_ret
  exact ⟨rfl, rfl⟩
theorem kwOf12 (w : World) : Calls Tryf.prog 18 #[.string (kindStr 12)] w fun e w' => e = .returned (.int .i64 (kwKind 12)) ∧ w = w' := by
  have e1 : kindStr 12 = ⟨#[79, 80, 69, 82, 65, 84, 79, 82]⟩ := rfl
  rw [e1]
  clear e1
  go_enter Tryf.func18, Tryf.ntmps18
  go_wp2
  go_ret
  exact ⟨rfl, rfl⟩
theorem kwOf13 (w : World) : Calls Tryf.prog 18 #[.string (kindStr 13)] w fun e w' => e = .returned (.int .i64 (kwKind 13)) ∧ w = w' := by
  have e1 : kindStr 13 = ⟨#[83, 84, 82, 73, 78, 71, 95, 66, 76, 79, 67, 75]⟩ := rfl
  rw [e1]
  clear e1
  go_enter Tryf.func18, Tryf.ntmps18
  go_wp2
  go_ret
  exact ⟨rfl, rfl⟩
theorem kwOf14 (w : World) : Calls Tryf.prog 18 #[.string (kindStr 14)] w fun e w' => e = .returned (.int .i64 (kwKind 14)) ∧ w = w' := by
  have e1 : kindStr 14 = ⟨#[83, 84, 82, 73, 78, 71, 95, 68, 79, 85, 66, 76, 69]⟩ := rfl
  rw [e1]
  clear e1
  go_enter Tryf.func18, Tryf.ntmps18
  go_wp2
  go_ret
  exact ⟨rfl, rfl⟩
theorem kwOf15 (w : World) : Calls Tryf.prog 18 #[.string (kindStr 15)] w fun e w' => e = .returned (.int .i64 (kwKind 15)) ∧ w = w' := by
  have e1 : kindStr 15 = ⟨#[83, 84, 82, 73, 78, 71, 95, 83, 73, 78, 71, 76, 69]⟩ := rfl
  rw [e1]
  clear e1
  go_enter Tryf.func18, Tryf.ntmps18
  go_wp2
  go_ret
  exact ⟨rfl, rfl⟩
theorem kwOf16 (w : World) : Calls Tryf.prog 18 #[.string (kindStr 16)] w fun e w' => e = .returned (.int .i64 (kwKind 16)) ∧ w = w' := by
  have e1 : kindStr 16 = ⟨#[86, 69, 82, 66, 65, 84, 73, 77, 95, 83, 84, 82, 73, 78, 71, 95, 68, 79, 85, 66, 76, 69]⟩ := rfl
  rw [e1]
  clear e1
  go_enter Tryf.func18, Tryf.ntmps18
  go_wp2
  go_ret
  exact ⟨rfl, rfl⟩
theorem kwOf17 (w : World) : Calls Tryf.prog 18 #[.string (kindStr 17)] w fun e w' => e = .returned (.int .i64 (kwKind 17)) ∧ w = w' := by
  have e1 : kindStr 17 = ⟨#[86, 69, 82, 66, 65, 84, 73, 77, 95, 83, 84, 82, 73, 78, 71, 95, 83, 73, 78, 71, 76, 69]⟩ := rfl
  rw [e1]
  clear e1
  go_enter Tryf.func18, Tryf.ntmps18
  go_wp2
  go_ret
  exact ⟨rfl, rfl⟩
theorem kwOf18 (w : World) : Calls Tryf.prog 18 #[.string (kindStr 18)] w fun e w' => e = .returned (.int .i64 (kwKind 18)) ∧ w = w' := by
  have e1 : kindStr 18 = ⟨#[97, 115, 115, 101, 114, 116]⟩ := rfl
  rw [e1]
  clear e1
  go_enter Tryf.func18, Tryf.ntmps18
  go_wp2
  go_ret
  exact ⟨rfl, rfl⟩
theorem kwOf19 (w : World) : Calls Tryf.prog 18 #[.string (kindStr 19)] w fun e w' => e = .returned (.int .i64 (kwKind 19)) ∧ w = w' := by
  have e1 : kindStr 19 = ⟨#[101, 108, 115, 101]⟩ := rfl
  rw [e1]
  clear e1
  go_enter Tryf.func18, Tryf.ntmps18
  go_wp2
  go_ret
  exact ⟨rfl, rfl⟩
theorem kwOf20 (w : World) : Calls Tryf.prog 18 #[.string (kindStr 20)] w fun e w' => e = .returned (.int .i64 (kwKind 20)) ∧ w = w' := by
  have e1 : kindStr 20 = ⟨#[101, 114, 114, 111, 114]⟩ := rfl
  rw [e1]
  clear e1
  go_enter Tryf.func18, Tryf.ntmps18
  go_wp2
  go_ret
  exact ⟨rfl, rfl⟩
theorem kwOf21 (w : World) : Calls Tryf.prog 18 #[.string (kindStr 21)] w fun e w' => e = .returned (.int .i64 (kwKind 21)) ∧ w = w' := by
  have e1 : kindStr 21 = ⟨#[102, 97, 108, 115, 101]⟩ := rfl
  rw [e1]
  clear e1
  go_enter Tryf.func18, Tryf.ntmps18
  go_wp2
  go_ret
  exact ⟨rfl, rfl⟩
theorem kwOf22 (w : World) : Calls Tryf.prog 18 #[.string (kindStr 22)] w fun e w' => e = .returned (.int .i64 (kwKind 22)) ∧ w = w' := by
  have e1 : kindStr 22 = ⟨#[102, 111, 114]⟩ := rfl
  rw [e1]
  clear e1
  go_enter Tryf.func18, Tryf.ntmps18
  go_wp2
  go_ret
  exact ⟨rfl, rfl⟩
theorem kwOf23 (w : World) : Calls Tryf.prog 18 #[.string (kindStr 23)] w fun e w' => e = .returned (.int .i64 (kwKind 23)) ∧ w = w' := by
  have e1 : kindStr 23 = ⟨#[102, 117, 110, 99, 116, 105, 111, 110]⟩ := rfl
  rw [e1]
  clear e1
  go_enter Tryf.func18, Tryf.ntmps18
  go_wp2
  go_ret
  exact ⟨rfl, rfl⟩
theorem kwOf24 (w : World) : Calls Tryf.prog 18 #[.string (kindStr 24)] w fun e w' => e = .returned (.int .i64 (kwKind 24)) ∧ w = w' := by
  have e1 : kindStr 24 = ⟨#[105, 102]⟩ := rfl
  rw [e1]
  clear e1
  go_enter Tryf.func18, Tryf.ntmps18
  go_wp2
  go_ret
  exact ⟨rfl, rfl⟩
theorem kwOf25 (w : World) : Calls Tryf.prog 18 #[.string (kindStr 25)] w fun e w' => e = .returned (.int .i64 (kwKind 25)) ∧ w = w' := by
  have e1 : kindStr 25 = ⟨#[105, 109, 112, 111, 114, 116]⟩ := rfl
  rw [e1]
  clear e1
  go_enter Tryf.func18, Tryf.ntmps18
  go_wp2
  go_ret
  exact ⟨rfl, rfl⟩
theorem kwOf26 (w : World) : Calls Tryf.prog 18 #[.string (kindStr 26)] w fun e w' => e = .returned (.int .i64 (kwKind 26)) ∧ w = w' := by
  have e1 : kindStr 26 = ⟨#[105, 109, 112, 111, 114, 116, 115, 116, 114]⟩ := rfl
  rw [e1]
  clear e1
  go_enter Tryf.func18, Tryf.ntmps18
  go_wp2
  go_ret
  exact ⟨rfl, rfl⟩
theorem kwOf27 (w : World) : Calls Tryf.prog 18 #[.string (kindStr 27)] w fun e w' => e = .returned (.int .i64 (kwKind 27)) ∧ w = w' := by
  have e1 : kindStr 27 = ⟨#[105, 109, 112, 111, 114, 116, 98, 105, 110]⟩ := rfl
  rw [e1]
  clear e1
  go_enter Tryf.func18, Tryf.ntmps18
  go_wp2
  go_ret
  exact ⟨rfl, rfl⟩
theorem kwOf28 (w : World) : Calls Tryf.prog 18 #[.string (kindStr 28)] w fun e w' => e = .returned (.int .i64 (kwKind 28)) ∧ w = w' := by
  have e1 : kindStr 28 = ⟨#[105, 110]⟩ := rfl
  rw [e1]
  clear e1
  go_enter Tryf.func18, Tryf.ntmps18
  go_wp2
  go_ret
  exact ⟨rfl, rfl⟩
theorem kwOf29 (w : World) : Calls Tryf.prog 18 #[.string (kindStr 29)] w fun e w' => e = .returned (.int .i64 (kwKind 29)) ∧ w = w' := by
  have e1 : kindStr 29 = ⟨#[108, 111, 99, 97, 108]⟩ := rfl
  rw [e1]
  clear e1
  go_enter Tryf.func18, Tryf.ntmps18
  go_wp2
  go_ret
  exact ⟨rfl, rfl⟩
theorem kwOf30 (w : World) : Calls Tryf.prog 18 #[.string (kindStr 30)] w fun e w' => e = .returned (.int .i64 (kwKind 30)) ∧ w = w' := by
  have e1 : kindStr 30 = ⟨#[110, 117, 108, 108]⟩ := rfl
  rw [e1]
  clear e1
  go_enter Tryf.func18, Tryf.ntmps18
  go_wp2
  go_ret
  exact ⟨rfl, rfl⟩
theorem kwOf31 (w : World) : Calls Tryf.prog 18 #[.string (kindStr 31)] w fun e w' => e = .returned (.int .i64 (kwKind 31)) ∧ w = w' := by
  have e1 : kindStr 31 = ⟨#[115, 101, 108, 102]⟩ := rfl
  rw [e1]
  clear e1
  go_enter Tryf.func18, Tryf.ntmps18
  go_wp2
  go_ret
  exact ⟨rfl, rfl⟩
theorem kwOf32 (w : World) : Calls Tryf.prog 18 #[.string (kindStr 32)] w fun e w' => e = .returned (.int .i64 (kwKind 32)) ∧ w = w' := by
  have e1 : kindStr 32 = ⟨#[115, 117, 112, 101, 114]⟩ := rfl
  rw [e1]
  clear e1
  go_enter Tryf.func18, Tryf.ntmps18
  go_wp2
  go_ret
  exact ⟨rfl, rfl⟩
theorem kwOf33 (w : World) : Calls Tryf.prog 18 #[.string (kindStr 33)] w fun e w' => e = .returned (.int .i64 (kwKind 33)) ∧ w = w' := by
  have e1 : kindStr 33 = ⟨#[116, 97, 105, 108, 115, 116, 114, 105, 99, 116]⟩ := rfl
  rw [e1]
  clear e1
  go_enter Tryf.func18, Tryf.ntmps18
  go_wp2
  go_ret
  exact ⟨rfl, rfl⟩
theorem kwOf34 (w : World) : Calls Tryf.prog 18 #[.string (kindStr 34)] w fun e w' => e = .returned (.int .i64 (kwKind 34)) ∧ w = w' := by
  have e1 : kindStr 34 = ⟨#[116, 104, 101, 110]⟩ := rfl
  rw [e1]
  clear e1
  go_enter Tryf.func18, Tryf.ntmps18
  go_wp2
  go_ret
  exact ⟨rfl, rfl⟩
theorem kwOf35 (w : World) : Calls Tryf.prog 18 #[.string (kindStr 35)] w fun e w' => e = .returned (.int .i64 (kwKind 35)) ∧ w = w' := by
  have e1 : kindStr 35 = ⟨#[116, 114, 117, 101]⟩ := rfl
  rw [e1]
  clear e1
  go_enter Tryf.func18, Tryf.ntmps18
  go_wp2
  go_ret
  exact ⟨rfl, rfl⟩
theorem kwOf36 (w : World) : Calls Tryf.prog 18 #[.string (kindStr 36)] w fun e w' => e = .returned (.int .i64 (kwKind 36)) ∧ w = w' := by
  have e1 : kindStr 36 = ⟨#[101, 110, 100, 32, 111, 102, 32, 102, 105, 108, 101]⟩ := rfl
  rw [e1]
  clear e1
  go_enter Tryf.func18, Tryf.ntmps18
  go_wp2
  go_ret
  exact ⟨rfl, rfl⟩
theorem kwOf (k : Nat) (hk : k < 37) (w : World) : Calls Tryf.prog 18 #[.string (kindStr k)] w fun e w' => e = .returned (.int .i64 (kwKind k)) ∧ w = w' := by
  match k, hk with
  | 0, _ => exact kwOf0 w
  | 1, _ => exact kwOf1 w
  | 2, _ => exact kwOf2 w
  | 3, _ => exact kwOf3 w
  | 4, _ => exact kwOf4 w
  | 5, _ => exact kwOf5 w
  | 6, _ => exact kwOf6 w
  | 7, _ => exact kwOf7 w
  | 8, _ => exact kwOf8 w
  | 9, _ => exact kwOf9 w
  | 10, _ => exact kwOf10 w
  | 11, _ => exact kwOf11 w
  | 12, _ => exact kwOf12 w
  | 13, _ => exact kwOf13 w
  | 14, _ => exact kwOf14 w
  | 15, _ => exact kwOf15 w
  | 16, _ => exact kwOf16 w
  | 17, _ => exact kwOf17 w
  | 18, _ => exact kwOf18 w
  | 19, _ => exact kwOf19 w
  | 20, _ => exact kwOf20 w
  | 21, _ => exact kwOf21 w
  | 22, _ => exact kwOf22 w
  | 23, _ => exact kwOf23 w
  | 24, _ => exact kwOf24 w
  | 25, _ => exact kwOf25 w
  | 26, _ => exact kwOf26 w
  | 27, _ => exact kwOf27 w
  | 28, _ => exact kwOf28 w
  | 29, _ => exact kwOf29 w
  | 30, _ => exact kwOf30 w
  | 31, _ => exact kwOf31 w
  | 32, _ => exact kwOf32 w
  | 33, _ => exact kwOf33 w
  | 34, _ => exact kwOf34 w
  | 35, _ => exact kwOf35 w
  | 36, _ => exact kwOf36 w
  | n + 37, h => exact absurd h (by omega)

theorem zzKwOf (k : Nat) (hk : k < 37) (w : World) : Calls Tryf.prog 15 #[.string (kindStr k)] w fun e w' => e = .returned (.int .i64 (kwKind k)) ∧ w = w' := by
  go_enter Tryf.func15, Tryf.ntmps15
  go_wp2_with (go_at_call 18; refine (kwOf k hk _).mono ?_; rintro e w' ⟨rfl, rfl⟩)
  go_ret
  exact ⟨rfl, rfl⟩

namespace fnTokenKindStringKeywordRoundTrip
theorem walk (k : Int) (w : World) (_ : (Lit.int .i64 k).wf = true) (hL : laidMetH Tryf.prog Rows.fnTokenKindStringKeywordRoundTripRow.laid w) :
    Calls Tryf.prog 6 #[.int .i64 k] w fun e w' => e = .returned (.bool true) ∧ Below w.heap.size w w' := by
  obtain ⟨b, off, cap, hg, hcap, hc⟩ := fnTokenKindStringTable.of_laid hL
  clear hL
  by_cases h0 : k < 0
  · clear hg hc
    go_enter Tryf.func6, Tryf.ntmps6
    go_wp2
    go_ret
    exact ⟨rfl, Below.refl _ _⟩
  by_cases h1 : 36 < k
  · clear hg hc
    have h0' : decide (k < 0) = false := decide_eq_false (by omega)
    go_enter Tryf.func6, Tryf.ntmps6
    go_wp2
    go_ret
    exact ⟨rfl, Below.refl _ _⟩
  obtain ⟨n, rfl⟩ := Int.eq_ofNat_of_zero_le (show 0 ≤ k by omega)
  have hn : n < 37 := by omega
  have H := Lib.hid (hc n hn)
  have HG := Lib.hid hg
  clear hc hg
  have h0' : decide ((n : Int) < 0) = false := decide_eq_false (by omega)
  have h1' : decide ((36 : Int) < n) = false := decide_eq_false (by omega)
  by_cases h2 : 18 ≤ n ∧ n ≤ 35
  · obtain ⟨h2a, h2b⟩ := h2
    have h2c : decide ((18 : Int) ≤ n) = true := decide_eq_true (by omega)
    have h2d : decide ((n : Int) ≤ 35) = true := decide_eq_true (by omega)
    have hk : kwKind n = n := by unfold kwKind; rw [if_pos ⟨h2a, h2b⟩]
    have HK := Lib.hid hk
    clear hk
    go_enter Tryf.func6, Tryf.ntmps6
    go_wp2_with fail
    refine (zzTkString n hn b off cap hcap _ HG.out H.out).mono ?_
    rintro e w' ⟨rfl, rfl⟩
    go_wp2_with fail
    refine (zzKwOf n hn _).mono ?_
    rintro e w' ⟨rfl, rfl⟩
    rw [HK.out]
    go_wp2
    go_ret
    exact ⟨by simp, Below.refl _ _⟩
  · have hk : kwKind n = 10 := by unfold kwKind; rw [if_neg h2]
    have HK := Lib.hid hk
    clear hk
    by_cases h3 : 18 ≤ n
    · have h3a : decide ((18 : Int) ≤ n) = true := decide_eq_true (by omega)
      have h3b : decide ((n : Int) ≤ 35) = false := decide_eq_false (by omega)
      go_enter Tryf.func6, Tryf.ntmps6
      go_wp2_with fail
      refine (zzTkString n hn b off cap hcap _ HG.out H.out).mono ?_
      rintro e w' ⟨rfl, rfl⟩
      go_wp2_with fail
      refine (zzKwOf n hn _).mono ?_
      rintro e w' ⟨rfl, rfl⟩
      rw [HK.out]
      go_wp2
      go_ret
      exact ⟨by simp, Below.refl _ _⟩
    · have h3a : decide ((18 : Int) ≤ n) = false := decide_eq_false (by omega)
      go_enter Tryf.func6, Tryf.ntmps6
      go_wp2_with fail
      refine (zzTkString n hn b off cap hcap _ HG.out H.out).mono ?_
      rintro e w' ⟨rfl, rfl⟩
      go_wp2_with fail
      refine (zzKwOf n hn _).mono ?_
      rintro e w' ⟨rfl, rfl⟩
      rw [HK.out]
      go_wp2
      go_ret
      exact ⟨by simp, Below.refl _ _⟩
end fnTokenKindStringKeywordRoundTrip

end Go.Proofs.YtjbjdoahpeghpaaFmt
