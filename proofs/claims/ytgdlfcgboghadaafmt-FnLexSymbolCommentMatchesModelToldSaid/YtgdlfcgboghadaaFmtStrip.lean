/-
  stripWhitespace: some leading and all trailing blanks of a text's runes are cut off.
-/
import Derived.Test.YtgdlfcgboghadaaFmtProg
import Derived.Test.YtgdlfcgboghadaaFmtByte
import Derived.Test.YtgdlfcgboghadaaFmtLexB
import Derived.WalkKit
import Derived.WalkSpells
import Derived.Lib.Hide
import Derived.Laws.IdiomStrings
import Derived.Laws.Cover4
import Derived.Deep.QuietTactic
namespace Go.Proofs.YtgdlfcgboghadaaFmt
open Go Go.RowKit

/-- The runes of a text from place i on. -/
def runesFrom (s : ByteArray) : Nat → Nat → List Int
  | 0, _ => []
  | b + 1, i => if i < s.size then ((Utf8.decode s i).1 : Int) :: runesFrom s b (i + (Utf8.decode s i).2) else []
def runesOf (s : ByteArray) : List Int := runesFrom s s.size 0
theorem conv_runes (s : ByteArray) : ∀ (b i : Nat) (acc : Array Value), Conv.runesFrom s b i acc = acc ++ ((runesFrom s b i).map (Value.int .i32)).toArray
  | 0, i, acc => by simp [Conv.runesFrom, runesFrom]
  | b + 1, i, acc => by
    unfold Conv.runesFrom runesFrom
    split
    · rename_i h
      have h' : i < s.size := h
      show Conv.runesFrom s b (i + (Utf8.decode s i).2) (acc.push (.int .i32 (Int.ofNat (Utf8.decode s i).1))) = _
      rw [conv_runes s b _ _]
      simp
    · rename_i h
      have h' : ¬ i < s.size := h
      simp
theorem runesFrom_len (s : ByteArray) : ∀ b i, (runesFrom s b i).length ≤ b
  | 0, _ => Nat.le_refl _
  | b + 1, i => by
    unfold runesFrom
    split
    · have := runesFrom_len s b (i + (Utf8.decode s i).2)
      simp
      omega
    · simp

/-- What is left: the runes from i up to j. -/
structure Stripped (zs : List Int) (mg : Int) (i j : Nat) : Prop where
  ij : i ≤ j
  jn : j ≤ zs.length
  lead : ∀ x, x < i → isHws (zs.getD x 0) = true
  mar : i = 0 ∨ (i : Int) ≤ mg
  stop : i = zs.length ∨ isHws (zs.getD i 0) = false ∨ mg ≤ i
  trail : ∀ x, j ≤ x → x < zs.length → isHws (zs.getD x 0) = true
  last : j = i ∨ isHws (zs.getD (j - 1) 0) = false

def SPost (s : ByteArray) (mg : Int) (w : World) (e : Ending) (w' : World) : Prop :=
  (∃ i j, Stripped (runesOf s) mg i j ∧ e = .returned (.string (runesBytes (((runesOf s).drop i).take (j - i))))) ∧ Below w.heap.size w w'

theorem SPost.zero {s : ByteArray} (h : s.size = 0) (mg : Int) {w W : World} (hb : Below w.heap.size w W) : SPost s mg w (.returned (.string s)) W := by
  have he : s = ByteArray.empty := by
    apply ByteArray.ext
    exact Array.eq_empty_of_size_eq_zero h
  have hr : runesOf s = [] := by
    unfold runesOf
    rw [h]
    rfl
  refine ⟨⟨0, 0, ?_, ?_⟩, hb⟩
  · rw [hr]
    exact ⟨Nat.le_refl _, Nat.le_refl _, fun x hx => absurd hx (by omega), .inl rfl, .inl rfl, fun x _ hx => absurd hx (by simp), .inl rfl⟩
  · rw [hr, he]
    rfl
theorem getD_row (zs : List Int) (c : Nat) (j : Nat) (h : j < zs.length) : ((zs.map (Value.int .i32)).toArray ++ Array.replicate c (Value.int .i32 0))[j]? = some (.int .i32 (zs.getD j 0)) := by
  rw [Array.getElem?_append_left (by simpa using h)]
  simp [List.getElem?_eq_getElem h]
/-- A text turned into runes: a new row that holds them. -/
theorem to_runes (s : ByteArray) (hs : s.size ≤ 1000000000) (w : World) :
    ∃ (cap : Nat) (W : World), Sem.run Tryf.prog (convert 9 136 (.string s)) w = .ok (.slice (some ⟨w.heap.size, 0, none⟩) (runesOf s).length cap) W ∧ (runesOf s).length ≤ cap ∧ (runesOf s).length ≤ s.size ∧
      (∀ j, j < (runesOf s).length → W.cell? ⟨w.heap.size, j, none⟩ = some (.int .i32 ((runesOf s).getD j 0))) ∧ Below w.heap.size w W := by
  have hlen := runesFrom_len s s.size 0
  have hcv := conv_runes s s.size 0 #[]
  have hrun := run_runes_of_string (P := Tryf.prog) w 9 136 21 s Tryf.underlying9 Tryf.underlying136 Tryf.underlying21 (by rw [hcv]; simp; omega)
  rw [hcv] at hrun
  simp only [Array.empty_append, List.size_toArray, List.length_map] at hrun
  refine ⟨_, _, hrun, grownCap_ge _ _ _ _, hlen, fun j hj => ?_, (Below.refl _ w).drew.alloc (Nat.le_refl _) _⟩
  rw [← getD_row (runesOf s) _ j hj]
  exact World.cell?_alloc_at (w := w.drew) _ _ _ _ rfl

theorem from_runes {zs : List Int} {n K : Nat} {W : World} (hn : zs.length = n) (hc : ∀ j, j < n → W.cell? ⟨K, j, none⟩ = some (.int .i32 (zs.getD j 0))) {p q : Nat} (hpq : p ≤ q) (hq : q ≤ n) (len cap : Nat) (hl : len = q - p) :
    Sem.run Tryf.prog (convert 136 9 (.slice (some ⟨K, p, none⟩) len cap)) W = .ok (.string (runesBytes ((zs.drop p).take (q - p)))) W := by
  subst hl hn
  have h := run_convert_runes (P := Tryf.prog) W 136 9 21 ⟨K, p, none⟩ (q - p) cap (zs.drop p) (by rw [List.length_drop]; omega) Tryf.underlying136 Tryf.underlying21 Tryf.underlying9 (fun j hj => by
    rw [List.length_drop] at hj
    have := hc (p + j) (by omega)
    rw [List.getD_eq_getElem?_getD, List.getElem?_drop, ← List.getD_eq_getElem?_getD]
    rw [← this]
    congr 1
    unfold Addr.add
    split
    · rename_i hj0; subst hj0; rfl
    · rfl)
  exact h
theorem from_runes0 {zs : List Int} {n K : Nat} {W : World} (hn : zs.length = n) (hc : ∀ j, j < n → W.cell? ⟨K, j, none⟩ = some (.int .i32 (zs.getD j 0))) (p : Nat) :
    Sem.run Tryf.prog (convert 136 9 (.slice (some ⟨K, 0, none⟩) 0 0)) W = .ok (.string (runesBytes ((zs.drop p).take (p - p)))) W := by
  rw [from_runes hn hc (Nat.le_refl 0) (Nat.zero_le _) 0 0 rfl]
  simp
theorem SPost.done {s : ByteArray} {mg : Int} {zs : List Int} {n K : Nat} {w W : World} (hz : runesOf s = zs) (hn : zs.length = n) (hk : w.heap.size = K) (hb : Below K w W) {p q : Nat} (hpq : p ≤ q) (hq : q ≤ n)
    (hI : (∀ x, x < p → isHws (zs.getD x 0) = true) ∧ (p = 0 ∨ (p : Int) ≤ mg)) (hS : p = n ∨ isHws (zs.getD p 0) = false ∨ mg ≤ (p : Int)) (hT : ∀ x, q ≤ x → x < n → isHws (zs.getD x 0) = true) (hl : q = p ∨ isHws (zs.getD (q - 1) 0) = false) :
    SPost s mg w (.returned (.string (runesBytes ((zs.drop p).take (q - p))))) W := by
  subst hz hn hk
  exact ⟨⟨p, q, ⟨hpq, hq, hI.1, hI.2, hS, hT, hl⟩, rfl⟩, hb⟩

theorem lead_next {zs : List Int} {i : Nat} (h : ∀ x, x < i → isHws (zs.getD x 0) = true) (hi : isHws (zs.getD i 0) = true) : ∀ x, x < i + 1 → isHws (zs.getD x 0) = true := fun x hx => by
  by_cases hxi : x < i
  · exact h x hxi
  · obtain rfl : x = i := by omega
    exact hi
theorem trail_step {zs : List Int} {j n : Nat} (h : ∀ x, j + 1 ≤ x → x < n → isHws (zs.getD x 0) = true) (hj : isHws (zs.getD j 0) = true) : ∀ x, j ≤ x → x < n → isHws (zs.getD x 0) = true := fun x hx hl => by
  by_cases hxi : j + 1 ≤ x
  · exact h x hxi hl
  · obtain rfl : x = j := by omega
    exact hj

set_option maxHeartbeats 1600000 in
set_option maxRecDepth 100000 in
theorem strip (s : ByteArray) (mg : Int) (hs : s.size ≤ 1000000000) (w : World) :
    Calls Tryf.prog 64 #[.string s, .int .i64 mg] w (SPost s mg w) := by
  obtain ⟨cap, W, hrun, hcap, hlen, hcell, hbel⟩ := to_runes s hs w
  have HC := Lib.hid hcell
  have HB := Lib.hid hbel
  generalize hzs : runesOf s = zs at hrun hcap hlen HC
  have HZ := Lib.hid hzs
  clear hcell hbel hzs
  generalize hn : zs.length = n at hrun hcap hlen HC
  have HN := Lib.hid hn
  clear hn
  by_cases h0 : s.size = 0
  · have hn0 : n = 0 := by omega
    go_enter Tryf.func64, Tryf.ntmps64
    go_wp2
    go_ret
    exact SPost.zero h0 mg HB.out
  have h0' : ((s.size : Int) == 0) = false := beq_eq_false_iff_ne.2 (by omega)
  generalize hk : w.heap.size = K at hrun HC HB
  have HK := Lib.hid hk
  clear hk
  go_enter Tryf.func64, Tryf.ntmps64
  go_wp2
  go_loop [6] (fun i => ∃ p : Nat, p ≤ n ∧ i = .int .i64 p ∧ Hid ((∀ x, x < p → isHws (zs.getD x 0) = true) ∧ (p = 0 ∨ (p : Int) ≤ mg))) (fun i => n - (intOf i).toNat)
  case atStart => exact ⟨0, Nat.zero_le _, rfl, Lib.hid ⟨fun x hx => absurd hx (by omega), .inl rfl⟩⟩
  case round =>
    obtain ⟨p, hp, rfl, HI⟩ := hrel
    by_cases hpn : p < n
    · have hc1 := HC.out p hpn
      generalize hr : zs.getD p 0 = r at hc1
      have HR := Lib.hid hr
      clear hr
      have H1 := Lib.hid (hws r)
      cases hh : isHws r
      · rw [hh] at H1
        have HS : Hid (p = n ∨ isHws (zs.getD p 0) = false ∨ mg ≤ (p : Int)) := Lib.hid (.inr (.inl (by rw [HR.out]; exact hh)))
        go_wp2_with fail
        refine (H1.out _).mono ?_
        rintro e w1 ⟨rfl, rfl⟩
        go_wp2
        go_loop [7] (fun j => ∃ q : Nat, p ≤ q ∧ q ≤ n ∧ j = .int .i64 q ∧ Hid (∀ x, q ≤ x → x < n → isHws (zs.getD x 0) = true)) (fun j => (intOf j).toNat - p)
        case atStart => exact ⟨n, hp, Nat.le_refl _, rfl, Lib.hid (fun x h1 h2 => absurd h1 (by omega))⟩
        case round =>
          obtain ⟨q, hpq, hqn, rfl, HT⟩ := hrel
          by_cases hqp : p < q
          · obtain ⟨q', rfl⟩ : ∃ q', q = q' + 1 := ⟨q - 1, by omega⟩
            have hc2 := HC.out q' (by omega)
            generalize hr2 : zs.getD q' 0 = r2 at hc2
            have HR2 := Lib.hid hr2
            clear hr2
            have H2 := Lib.hid (hws r2)
            cases hh2 : isHws r2
            · rw [hh2] at H2
              have hbk := from_runes (W := W) HN.out HC.out hpq hqn (q' + 1 - p) (cap - p) rfl
              have HF := Lib.hid (SPost.done HZ.out HN.out HK.out HB.out hpq hqn HI.out HS.out HT.out (.inr (by rw [Nat.add_sub_cancel, HR2.out]; exact hh2)))
              generalize runesBytes ((zs.drop p).take (q' + 1 - p)) = R at hbk HF
              go_wp2_with fail
              refine (H2.out _).mono ?_
              rintro e w1 ⟨rfl, rfl⟩
              go_wp2
              go_ret
              exact HF.out
            · rw [hh2] at H2
              go_wp2_with fail
              refine (H2.out _).mono ?_
              rintro e w1 ⟨rfl, rfl⟩
              go_wp2
              go_round
              case rel => exact ⟨q', by omega, by omega, by go_num, Lib.hid (trail_step HT.out (by rw [HR2.out]; exact hh2))⟩
              case measure => simp [intOf]; omega
          · obtain rfl : p = q := by omega
            have hbk := from_runes (W := W) HN.out HC.out (Nat.le_refl p) hqn 0 (cap - p) (by omega)
            have HF := Lib.hid (SPost.done HZ.out HN.out HK.out HB.out (Nat.le_refl p) hqn HI.out HS.out HT.out (.inl rfl))
            generalize runesBytes ((zs.drop p).take (p - p)) = R at hbk HF
            go_wp2
            go_ret
            exact HF.out
      · rw [hh] at H1
        by_cases hm : (p : Int) < mg
        · have HI2 : Hid ((∀ x, x < p + 1 → isHws (zs.getD x 0) = true) ∧ (p + 1 = 0 ∨ ((p + 1 : Nat) : Int) ≤ mg)) := Lib.hid ⟨lead_next HI.out.1 (by rw [HR.out]; exact hh), .inr (by omega)⟩
          go_wp2_with fail
          refine (H1.out _).mono ?_
          rintro e w1 ⟨rfl, rfl⟩
          go_wp2
          go_round
          case rel => exact ⟨p + 1, by omega, by go_num, HI2⟩
          case measure => simp [intOf]; omega
        · have HS : Hid (p = n ∨ isHws (zs.getD p 0) = false ∨ mg ≤ (p : Int)) := Lib.hid (.inr (.inr (by omega)))
          go_wp2_with fail
          refine (H1.out _).mono ?_
          rintro e w1 ⟨rfl, rfl⟩
          go_wp2
          go_loop [7] (fun j => ∃ q : Nat, p ≤ q ∧ q ≤ n ∧ j = .int .i64 q ∧ Hid (∀ x, q ≤ x → x < n → isHws (zs.getD x 0) = true)) (fun j => (intOf j).toNat - p)
          case atStart => exact ⟨n, hp, Nat.le_refl _, rfl, Lib.hid (fun x h1 h2 => absurd h1 (by omega))⟩
          case round =>
            obtain ⟨q, hpq, hqn, rfl, HT⟩ := hrel
            by_cases hqp : p < q
            · obtain ⟨q', rfl⟩ : ∃ q', q = q' + 1 := ⟨q - 1, by omega⟩
              have hc2 := HC.out q' (by omega)
              generalize hr2 : zs.getD q' 0 = r2 at hc2
              have HR2 := Lib.hid hr2
              clear hr2
              have H2 := Lib.hid (hws r2)
              cases hh2 : isHws r2
              · rw [hh2] at H2
                have hbk := from_runes (W := W) HN.out HC.out hpq hqn (q' + 1 - p) (cap - p) rfl
                have HF := Lib.hid (SPost.done HZ.out HN.out HK.out HB.out hpq hqn HI.out HS.out HT.out (.inr (by rw [Nat.add_sub_cancel, HR2.out]; exact hh2)))
                generalize runesBytes ((zs.drop p).take (q' + 1 - p)) = R at hbk HF
                go_wp2_with fail
                refine (H2.out _).mono ?_
                rintro e w1 ⟨rfl, rfl⟩
                go_wp2
                go_ret
                exact HF.out
              · rw [hh2] at H2
                go_wp2_with fail
                refine (H2.out _).mono ?_
                rintro e w1 ⟨rfl, rfl⟩
                go_wp2
                go_round
                case rel => exact ⟨q', by omega, by omega, by go_num, Lib.hid (trail_step HT.out (by rw [HR2.out]; exact hh2))⟩
                case measure => simp [intOf]; omega
            · obtain rfl : p = q := by omega
              have hbk := from_runes (W := W) HN.out HC.out (Nat.le_refl p) hqn 0 (cap - p) (by omega)
              have HF := Lib.hid (SPost.done HZ.out HN.out HK.out HB.out (Nat.le_refl p) hqn HI.out HS.out HT.out (.inl rfl))
              generalize runesBytes ((zs.drop p).take (p - p)) = R at hbk HF
              go_wp2
              go_ret
              exact HF.out
    · obtain rfl : p = n := by omega
      have HS : Hid (p = p ∨ isHws (zs.getD p 0) = false ∨ mg ≤ (p : Int)) := Lib.hid (.inl rfl)
      go_wp2
      go_loop [7] (fun j => ∃ q : Nat, p ≤ q ∧ q ≤ p ∧ j = .int .i64 q ∧ Hid (∀ x, q ≤ x → x < p → isHws (zs.getD x 0) = true)) (fun j => (intOf j).toNat - p)
      case atStart => exact ⟨p, hp, Nat.le_refl _, rfl, Lib.hid (fun x h1 h2 => absurd h1 (by omega))⟩
      case round =>
        obtain ⟨q, hpq, hqn, rfl, HT⟩ := hrel
        by_cases hqp : p < q
        · exact absurd hqp (by omega)
        · obtain rfl : p = q := by omega
          have hbk := from_runes (W := W) HN.out HC.out (Nat.le_refl p) hqn 0 (cap - p) (by omega)
          have hbk0 := from_runes0 (W := W) HN.out HC.out p
          have HF := Lib.hid (SPost.done HZ.out HN.out HK.out HB.out (Nat.le_refl p) hqn HI.out (.inl rfl) HT.out (.inl rfl))
          generalize runesBytes ((zs.drop p).take (p - p)) = R at hbk hbk0 HF
          go_wp2
          all_goals go_ret
          all_goals exact HF.out

end Go.Proofs.YtgdlfcgboghadaaFmt
