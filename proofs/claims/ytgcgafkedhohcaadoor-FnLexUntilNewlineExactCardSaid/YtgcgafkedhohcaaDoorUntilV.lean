/-
  The walk of FnLexUntilNewlineExact.
-/
import Derived.Test.YtgcgafkedhohcaaDoorUntilP
import Derived.Test.YtgcgafkedhohcaaDoorVUtfB
import Derived.Test.YtgcgafkedhohcaaDoorLaidTabs
namespace Go.Proofs.YtgcgafkedhohcaaDoor.fnLexUntilNewlineExact
open Go Go.RowKit Go.Shelf

theorem firstStop (f : Nat → Bool) : ∀ n : Nat, ∃ J, J ≤ n ∧ (∀ i, i < J → f i = true) ∧ (J = n ∨ (J < n ∧ f J = false))
  | 0 => ⟨0, Nat.le_refl _, fun i hi => absurd hi (by omega), .inl rfl⟩
  | n + 1 => by
    obtain ⟨J, h1, h2, h3⟩ := firstStop f n
    rcases h3 with h3 | ⟨h3, h4⟩
    · subst h3
      cases hf : f J
      · exact ⟨J, by omega, h2, .inr ⟨by omega, hf⟩⟩
      · refine ⟨J + 1, Nat.le_refl _, fun i hi => ?_, .inl rfl⟩
        by_cases hiJ : i < J
        · exact h2 i hiJ
        · obtain rfl : i = J := by omega
          exact hf
    · exact ⟨J, by omega, h2, .inr ⟨by omega, h4⟩⟩
theorem lastStop (f : Nat → Bool) : ∀ n : Nat, ∃ T, T ≤ n ∧ (∀ i, T ≤ i → i < n → f i = true) ∧ (T = 0 ∨ f (T - 1) = false)
  | 0 => ⟨0, Nat.le_refl _, fun i _ hi => absurd hi (by omega), .inl rfl⟩
  | n + 1 => by
    cases hf : f n
    · exact ⟨n + 1, Nat.le_refl _, fun i h1 h2 => absurd h1 (by omega), .inr (by rw [Nat.add_sub_cancel]; exact hf)⟩
    · obtain ⟨T, h1, h2, h3⟩ := lastStop f n
      refine ⟨T, by omega, fun i a b => ?_, h3⟩
      by_cases hin : i < n
      · exact h2 i a hin
      · obtain rfl : i = n := by omega
        exact hf
theorem first_eq {f : Nat → Bool} {n J J' : Nat} (h1 : J ≤ n) (h2 : ∀ i, i < J → f i = true) (h3 : J = n ∨ (J < n ∧ f J = false)) (k1 : J' ≤ n) (k2 : ∀ i, i < J' → f i = true) (k3 : J' = n ∨ (J' < n ∧ f J' = false)) : J = J' := by
  rcases Nat.lt_trichotomy J J' with h | h | h
  · have := k2 J h
    rcases h3 with h3 | h3
    · omega
    · rw [h3.2] at this; cases this
  · exact h
  · have := h2 J' h
    rcases k3 with k3 | k3
    · omega
    · rw [k3.2] at this; cases this
theorem last_eq {f : Nat → Bool} {n T T' : Nat} (h1 : T ≤ n) (h2 : ∀ i, T ≤ i → i < n → f i = true) (h3 : T = 0 ∨ f (T - 1) = false) (k1 : T' ≤ n) (k2 : ∀ i, T' ≤ i → i < n → f i = true) (k3 : T' = 0 ∨ f (T' - 1) = false) : T = T' := by
  rcases Nat.lt_trichotomy T T' with h | h | h
  · have := h2 (T' - 1) (by omega) (by omega)
    rcases k3 with k3 | k3
    · omega
    · rw [k3] at this; cases this
  · exact h
  · have := k2 (T - 1) (by omega) (by omega)
    rcases h3 with h3 | h3
    · omega
    · rw [h3] at this; cases this
theorem nlc_zero (s : ByteArray) : ∀ J, (∀ i, i < J → byteAt s i ≠ 10) → nlc s J = 0
  | 0, _ => rfl
  | J + 1, h => by rw [nlc_no (h J (by omega))]; exact nlc_zero s J (fun i hi => h i (by omega))
theorem wsRun_eq {s : ByteArray} {p k k' : Nat} (h : WsRun s p k) (h' : WsRun s p k') : k = k' :=
  first_eq (f := fun i => isWs (byteAt s (p + i))) (n := s.size - p) (by have := h.fit; omega) h.all (by rcases h.stop with e | ⟨a, b⟩; exact .inl (by omega); exact .inr ⟨by omega, b⟩) (by have := h'.fit; omega) h'.all (by rcases h'.stop with e | ⟨a, b⟩; exact .inl (by omega); exact .inr ⟨by omega, b⟩)
theorem wsRun_ex (s : ByteArray) (p : Nat) (hp : p ≤ s.size) : ∃ k, WsRun s p k := by
  obtain ⟨k, h1, h2, h3⟩ := firstStop (fun i => isWs (byteAt s (p + i))) (s.size - p)
  exact ⟨k, by omega, h2, by rcases h3 with e | ⟨a, b⟩; exact .inl (by omega); exact .inr ⟨by omega, b⟩⟩

theorem hwsB (b : Int) (w : World) : Calls Tryd.prog 28 #[.int .u8 b] w fun e w' => e = .returned (.bool (isHws b)) ∧ w = w' := by
  by_cases h32 : b = 32
  · subst h32
    go_enter Tryd.func28, Tryd.ntmps28
    go_wp2
    go_ret
    exact ⟨rfl, rfl⟩
  have e32 : (b == 32) = false := beq_eq_false_iff_ne.2 h32
  by_cases h9 : b = 9
  · subst h9
    go_enter Tryd.func28, Tryd.ntmps28
    go_wp2
    go_ret
    exact ⟨rfl, rfl⟩
  have e9 : (b == 9) = false := beq_eq_false_iff_ne.2 h9
  have e3 : isHws b = (b == 13) := by unfold isHws; simp [e32, e9]
  rw [e3]
  clear e3 h32 h9
  go_enter Tryd.func28, Tryd.ntmps28
  go_wp2
  go_ret
  exact ⟨rfl, rfl⟩
theorem wsB (b : Int) (w : World) : Calls Tryd.prog 29 #[.int .u8 b] w fun e w' => e = .returned (.bool (isWs b)) ∧ w = w' := by
  by_cases h32 : b = 32
  · subst h32
    go_enter Tryd.func29, Tryd.ntmps29
    go_wp2
    go_ret
    exact ⟨rfl, rfl⟩
  have e32 : (b == 32) = false := beq_eq_false_iff_ne.2 h32
  by_cases h9 : b = 9
  · subst h9
    go_enter Tryd.func29, Tryd.ntmps29
    go_wp2
    go_ret
    exact ⟨rfl, rfl⟩
  have e9 : (b == 9) = false := beq_eq_false_iff_ne.2 h9
  by_cases h13 : b = 13
  · subst h13
    go_enter Tryd.func29, Tryd.ntmps29
    go_wp2
    go_ret
    exact ⟨rfl, rfl⟩
  have e13 : (b == 13) = false := beq_eq_false_iff_ne.2 h13
  have e3 : isWs b = (b == 10) := by unfold isWs isHws; simp [e32, e9, e13]
  rw [e3]
  clear e3 h32 h9 h13
  go_enter Tryd.func29, Tryd.ntmps29
  go_wp2
  go_ret
  exact ⟨rfl, rfl⟩
theorem widB (b : Nat) (w : World) : Calls Tryd.prog 30 #[.int .u8 (b : Int)] w fun e w' => e = .returned (.int .i64 (wid b : Int)) ∧ w = w' := by
  by_cases h1 : b = 32
  · subst h1
    go_enter Tryd.func30, Tryd.ntmps30
    go_wp2
    go_ret
    exact ⟨rfl, rfl⟩
  by_cases h2 : b = 9
  · subst h2
    go_enter Tryd.func30, Tryd.ntmps30
    go_wp2
    go_ret
    exact ⟨rfl, rfl⟩
  have e1 : ((b : Int) == 32) = false := beq_eq_false_iff_ne.2 (by omega)
  have e2 : ((b : Int) == 9) = false := beq_eq_false_iff_ne.2 (by omega)
  have e3 : wid b = 0 := by unfold wid; rw [if_neg h1, if_neg h2]
  rw [e3]
  clear e3 h1 h2
  go_enter Tryd.func30, Tryd.ntmps30
  go_wp2
  go_ret
  exact ⟨rfl, rfl⟩

def ZPost (s : ByteArray) (w : World) (e : Ending) (w' : World) : Prop :=
  ∃ m k M, UTo s (initSt ⟨#[]⟩ ⟨#[]⟩ s M) m ∧ (((initSt ⟨#[]⟩ ⟨#[]⟩ s M).steps m).rune = -1 ∨ ((initSt ⟨#[]⟩ ⟨#[]⟩ s M).steps m).rune = 10) ∧ WsRun s ((initSt ⟨#[]⟩ ⟨#[]⟩ s M).steps m).bn k ∧
    e = .returned (.tuple #[.string ⟨((ubuf (initSt ⟨#[]⟩ ⟨#[]⟩ s M) m).take (ulast (initSt ⟨#[]⟩ ⟨#[]⟩ s M) m)).toArray⟩, .int .i64 ((nlTo s ((initSt ⟨#[]⟩ ⟨#[]⟩ s M).steps m).bn k - 1 : Nat) : Int), .int .i64 (indTo s ((initSt ⟨#[]⟩ ⟨#[]⟩ s M).steps m).bn k : Int),
      .int .i64 ((((initSt ⟨#[]⟩ ⟨#[]⟩ s M).steps m).bn + k : Nat) : Int), .int .i64 (1 + (nlc s (((initSt ⟨#[]⟩ ⟨#[]⟩ s M).steps m).bn + k) : Int))]) ∧ Below w.heap.size w w'

set_option maxRecDepth 100000 in
theorem zzUntil (s : ByteArray) (hs : s.size ≤ 1000000000) (w : World) (hT : Lib.Utf8Tabs 0 1 w) : Calls Tryd.prog 31 #[.string s] w (ZPost s w) := by
  obtain ⟨g0, g1⟩ := tabs_lt hT
  have HT := Lib.hid hT
  clear hT
  go_enter Tryd.func31, Tryd.ntmps31
  go_wp2_with fail
  refine (makeLexer ⟨#[]⟩ ⟨#[]⟩ s (by omega) _).mono ?_
  rintro e w1 ⟨N, M, rfl, hN, hAt, hb⟩
  have HA := Lib.hid hAt
  have HT1 := Lib.hid (tabs_below HT.out hb g0 g1)
  have hz1 := hb.size
  clear hAt
  go_wp2_with fail
  refine (lexUntilNewline s N _ w1 HA.out (inv_init _ _ _ _) hs HT1.out (by omega) (by omega)).mono ?_
  rintro e w2 ⟨m, k, rfl, hu, hst, hws, hbk, hA2, hg2⟩
  have hi2 := ((inv_init ⟨#[]⟩ ⟨#[]⟩ s (.pointer (some ⟨M, 0, none⟩))).steps m).steps k
  have hb2 : Below w.heap.size w w2 := hb.trans (below_of_grown hg2 hN hz1)
  have hln : (((initSt ⟨#[]⟩ ⟨#[]⟩ s (.pointer (some ⟨M, 0, none⟩))).steps m).steps k).ln = 1 + (nlc s (((initSt ⟨#[]⟩ ⟨#[]⟩ s (.pointer (some ⟨M, 0, none⟩))).steps m).bn + k) : Int) := by rw [hi2.ln, hbk]
  have c10 : w2.cell? ⟨N, 10, none⟩ = some (.int .i64 ((((initSt ⟨#[]⟩ ⟨#[]⟩ s (.pointer (some ⟨M, 0, none⟩))).steps m).bn + k : Nat) : Int)) := by rw [← hbk]; exact hA2.cell 10
  have c11 : w2.cell? ⟨N, 11, none⟩ = some (.int .i64 (1 + (nlc s (((initSt ⟨#[]⟩ ⟨#[]⟩ s (.pointer (some ⟨M, 0, none⟩))).steps m).bn + k) : Int))) := by rw [← hln]; exact hA2.cell 11
  have HP := Lib.hid (And.intro hu (And.intro hst hws))
  clear hu hst hws hA2 hbk hi2 hln hg2 HA HT1 HT
  generalize hE : ((initSt ⟨#[]⟩ ⟨#[]⟩ s (.pointer (some ⟨M, 0, none⟩))).steps m).bn + k = E at c10 c11
  have HE := Lib.hid hE
  clear hE
  generalize hNL : 1 + (nlc s E : Int) = NL at c11
  have HNL := Lib.hid hNL
  clear hNL
  go_wp2_with fail
  go_quiet (fail)
  go_wp2
  refine bodyPost_ret (by simp [results, Tryd.results31, go_sem]; rfl) rfl ?_
  exact ⟨m, k, _, HP.out.1, HP.out.2.1, HP.out.2.2, by rw [HE.out, HNL.out], drewN_below hb2 _⟩

end Go.Proofs.YtgcgafkedhohcaaDoor.fnLexUntilNewlineExact
