/-
  n008_32: modelLex.
-/
import Derived.Test.YthohpccmleodpaaFmtLxN
import Derived.Test.YthohpccmleodpaaFmtLxR
namespace Go.Proofs.YthohpccmleodpaaFmt
open Go Go.RowKit Go.Shelf
namespace Lx

def MlPost (s : ByteArray) (w : World) (e : Ending) (w' : World) : Prop :=
  ((∃ ts vk vd, e = .returned (.tuple #[vk, vd, .bool true]) ∧ Res s 0 (some ts) ∧ ts.length ≤ s.size ∧ KD w.heap.size w w' vk vd ((ts ++ [((36 : Int), (⟨#[]⟩ : ByteArray))]).map Prod.fst) ((ts ++ [((36 : Int), (⟨#[]⟩ : ByteArray))]).map Prod.snd)) ∨
    (e = .returned (.tuple #[.slice none 0 0, .slice none 0 0, .bool false]) ∧ Res s 0 none)) ∧ Below w.heap.size w w'
def MlSt (s : ByteArray) (w wr : World) (kv dv : Value) (q : Nat) (ts : List Tok) : Prop := ts.length ≤ q ∧ Pre s q ts ∧ KD w.heap.size w wr kv dv (ts.map Prod.fst) (ts.map Prod.snd)

set_option maxHeartbeats 25600000 in
set_option maxRecDepth 100000 in
theorem modelLex (s : ByteArray) (w : World) (hP : Plain s) (hs : s.size ≤ 999999) :
    Calls Tryf.prog 7 #[.string s] w (MlPost s w) := by
  have HP := Lib.hid hP
  have HS0 : Hid (MlSt s w w (.slice none 0 0) (.slice none 0 0) 0 []) := Lib.hid ⟨Nat.le_refl _, .zero s, .nil w⟩
  clear hP
  go_enter Tryf.func7, Tryf.ntmps7
  go_wp2
  go_loopw [5, 6, 8] (fun kv dv i wr => ∃ (q : Nat) (ts : List Tok), i = .int .i64 q ∧ q ≤ s.size ∧ Hid (MlSt s w wr kv dv q ts)) (fun _ _ i _ => s.size - (intOf i).toNat)
  case atStart => exact ⟨0, [], rfl, Nat.zero_le _, HS0⟩
  case round =>
    clear HS0
    obtain ⟨q, ts, rfl, hq, HS⟩ := hrel
    have hlen := HS.out.1
    obtain ⟨Z, rfl⟩ : ∃ Z, Z = wr := ⟨_, rfl⟩
    by_cases hlt : q < s.size
    · have i1 : (q : Int) < (s.size : Int) := by omega
      have HBY := Lib.hid (byte_of_get s q hlt)
      cases h2 : isWs ((s[q]'hlt).toNat : Int) with
      | true =>
        have HPR := Lib.hid (HS.out.2.1.step hlt (.ws (by rw [← HBY.out]; exact h2)))
        go_wp2_with fail
        refine (spaceB _ _).mono ?_
        rw [h2]
        rintro e w1 ⟨rfl, rfl⟩
        go_wp2
        go_roundw
        case rel => exact ⟨q + 1, ts, by go_num, by omega, Lib.hid ⟨by omega, by simpa using HPR.out, HS.out.2.2⟩⟩
        case measure => simp [intOf]; omega
      | false =>
      by_cases h3 : 0 ≤ punct (s[q]'hlt).toNat
      · have j3 : decide (0 ≤ punct (s[q]'hlt).toNat) = true := decide_eq_true h3
        have HPR := Lib.hid (HS.out.2.1.step hlt (.pu (by rw [← HBY.out]; exact h3)))
        rw [← HBY.out] at HPR
        have i3 : (0 : Int) ≤ (q : Int) + 1 := by omega
        have i4 : (q : Int) ≤ (q : Int) + 1 := by omega
        have i5 : (q : Int) + 1 ≤ (s.size : Int) := by omega
        go_wp2_with fail
        refine (spaceB _ _).mono ?_
        rw [h2]
        rintro e w1 ⟨rfl, rfl⟩
        go_wp2_with fail
        refine (punctB _ _).mono ?_
        rintro e w1 ⟨rfl, rfl⟩
        go_wp2_with fail
        refine (punctB _ _).mono ?_
        rintro e w1 ⟨rfl, rfl⟩
        go_wp2_with (at_builtin; refine wp_kinds rfl _ _ rfl w.heap.size w Z _ _ (ts.map Prod.fst) (ts.map Prod.snd) (punct (s[q]'hlt).toNat) rfl rfl (by exact HS.out.2.2) (by rw [List.length_map]; omega) ?_)
        intro v2 w2 hk2
        have HK2 := Lib.hid hk2
        clear hk2
        go_wp2_with (at_builtin; refine wp_datas rfl _ _ rfl w.heap.size w w2 v2 _ ((ts.map Prod.fst) ++ [(punct (s[q]'hlt).toNat)]) (ts.map Prod.snd) _ rfl rfl (by exact HK2.out) (by rw [List.length_map]; omega) ?_)
        intro v3 w3 hk3
        have HK3 := Lib.hid hk3
        clear hk3 HK2
        go_wp2
        go_roundw
        case rel => exact ⟨q + 1, ts ++ [(punct (s[q]'hlt).toNat, s.extract q (q + 1))], by go_num, by omega, Lib.hid ⟨by rw [List.length_append]; simp; omega, HPR.out, by simpa using HK3.out⟩⟩
        case measure => simp [intOf]; omega
      · have j3 : decide (0 ≤ punct (s[q]'hlt).toNat) = false := decide_eq_false h3
        cases h1 : idF ((s[q]'hlt).toNat : Int) with
        | true =>
          have HIF : Hid (idF (byteAt s q) = true) := Lib.hid (by rw [← HBY.out]; exact h1)
          go_wp2_with fail
          refine (spaceB _ _).mono ?_
          rw [h2]
          rintro e w1 ⟨rfl, rfl⟩
          go_wp2_with fail
          refine (punctB _ _).mono ?_
          rintro e w1 ⟨rfl, rfl⟩
          go_wp2_with fail
          refine (letterB _ _).mono ?_
          rw [h1]
          rintro e w1 ⟨rfl, rfl⟩
          go_wp2
          go_loopw [10] (fun j wr => ∃ r : Nat, j = .int .i64 r ∧ q + 1 ≤ r ∧ r ≤ s.size ∧ wr = Z ∧ Hid (∀ i, q ≤ i → i < r → idC (byteAt s i) = true)) (fun j _ => s.size - (intOf j).toNat)
          case atStart => exact ⟨q + 1, by go_num, Nat.le_refl _, by omega, rfl, Lib.hid fun i h1 h2 => by
            have : i = q := by omega
            subst this
            exact idC_iff.2 (.inl HIF.out)⟩
          case round =>
            obtain ⟨r, rfl, hr1, hr2, rfl, HA⟩ := hrel
            clear h1 h2 h3 j3 HBY
            by_cases hlr : r < s.size
            · have i1 : (r : Int) < (s.size : Int) := by omega
              have HBR := Lib.hid (byte_of_get s r hlr)
              cases g1 : idF ((s[r]'hlr).toNat : Int) with
              | true =>
                have HA2 : Hid (∀ i, q ≤ i → i < r + 1 → idC (byteAt s i) = true) := Lib.hid fun i h1 h2 => by
                  by_cases e : i < r
                  · exact HA.out i h1 e
                  · obtain rfl : i = r := by omega
                    exact idC_iff.2 (.inl (by rw [← HBR.out]; exact g1))
                go_wp2_with fail
                refine (letterB _ _).mono ?_
                rw [g1]
                rintro e w1 ⟨rfl, rfl⟩
                go_wp2
                go_roundw
                case rel => exact ⟨r + 1, by go_num, by omega, by omega, trivial, HA2⟩
                case measure => simp [intOf]; omega
              | false =>
              cases g2 : isD (s[r]'hlr).toNat with
              | true =>
                have HA2 : Hid (∀ i, q ≤ i → i < r + 1 → idC (byteAt s i) = true) := Lib.hid fun i h1 h2 => by
                  by_cases e : i < r
                  · exact HA.out i h1 e
                  · obtain rfl : i = r := by omega
                    exact idC_iff.2 (.inr (by rw [← HBR.out]; exact g2))
                go_wp2_with fail
                refine (letterB _ _).mono ?_
                rw [g1]
                rintro e w1 ⟨rfl, rfl⟩
                go_wp2_with fail
                refine (digitB _ _).mono ?_
                rw [g2]
                rintro e w1 ⟨rfl, rfl⟩
                go_wp2
                go_roundw
                case rel => exact ⟨r + 1, by go_num, by omega, by omega, trivial, HA2⟩
                case measure => simp [intOf]; omega
              | false =>
                have HC : Hid (idC (byteAt s r) = false) := Lib.hid (by
                  cases h : idC (byteAt s r : Int) with
                  | false => rfl
                  | true =>
                    rcases idC_iff.1 h with h | h
                    · rw [← HBR.out, g1] at h; cases h
                    · rw [← HBR.out, g2] at h; cases h)
                have hqr0 : q + (r - q) = r := by omega
                have i6 : (q : Int) ≤ (r : Int) := by omega
                have i7 : (r : Int) ≤ (s.size : Int) := by omega
                go_wp2_with fail
                refine (letterB _ _).mono ?_
                rw [g1]
                rintro e w1 ⟨rfl, rfl⟩
                go_wp2_with fail
                refine (digitB _ _).mono ?_
                rw [g2]
                rintro e w1 ⟨rfl, rfl⟩
                have HID : Hid (IdR s q (r - q)) := Lib.hid ⟨by omega, by omega, fun j hj => HA.out (q + j) (by omega) (by omega), .inr ⟨by omega, by rw [hqr0]; exact HC.out⟩⟩
                have HPR := Lib.hid (HS.out.2.1.step hlt (.id (r - q) HIF.out HID.out))
                have hqr : q + (r - q) = r := by omega
                rw [hqr] at HPR
                clear hqr
                go_wp2_with fail
                refine (kwB _ _).mono ?_
                rintro e w1 ⟨rfl, rfl⟩
                go_wp2_with (at_builtin; refine wp_kinds rfl _ _ rfl w.heap.size w _ _ _ (ts.map Prod.fst) (ts.map Prod.snd) (kwKind (s.extract q r)) rfl rfl (by exact HS.out.2.2) (by rw [List.length_map]; omega) ?_)
                intro v2 w2 hk2
                have HK2 := Lib.hid hk2
                clear hk2
                go_wp2_with (at_builtin; refine wp_datas rfl _ _ rfl w.heap.size w w2 v2 _ ((ts.map Prod.fst) ++ [(kwKind (s.extract q r))]) (ts.map Prod.snd) _ rfl rfl (by exact HK2.out) (by rw [List.length_map]; omega) ?_)
                intro v3 w3 hk3
                have HK3 := Lib.hid hk3
                clear hk3 HK2
                go_wp2
                go_roundw
                case rel => exact ⟨r, ts ++ [(kwKind (s.extract q r), s.extract q r)], by go_num, by omega, Lib.hid ⟨by rw [List.length_append]; simp; omega, HPR.out, by simpa using HK3.out⟩⟩
                case measure => simp [intOf]; omega
            · have i1 : ¬ (r : Int) < (s.size : Int) := by omega
              have i0 : decide ((r : Int) < (s.size : Int)) = false := decide_eq_false i1
              have i6 : (q : Int) ≤ (r : Int) := by omega
              have i7 : (r : Int) ≤ (s.size : Int) := by omega
              have HID : Hid (IdR s q (r - q)) := Lib.hid ⟨by omega, by omega, fun j hj => HA.out (q + j) (by omega) (by omega), .inl (by omega)⟩
              have HPR := Lib.hid (HS.out.2.1.step hlt (.id (r - q) HIF.out HID.out))
              have hqr : q + (r - q) = r := by omega
              rw [hqr] at HPR
              clear hqr
              go_wp2_with fail
              refine (kwB _ _).mono ?_
              rintro e w1 ⟨rfl, rfl⟩
              go_wp2_with (at_builtin; refine wp_kinds rfl _ _ rfl w.heap.size w _ _ _ (ts.map Prod.fst) (ts.map Prod.snd) (kwKind (s.extract q r)) rfl rfl (by exact HS.out.2.2) (by rw [List.length_map]; omega) ?_)
              intro v2 w2 hk2
              have HK2 := Lib.hid hk2
              clear hk2
              go_wp2_with (at_builtin; refine wp_datas rfl _ _ rfl w.heap.size w w2 v2 _ ((ts.map Prod.fst) ++ [(kwKind (s.extract q r))]) (ts.map Prod.snd) _ rfl rfl (by exact HK2.out) (by rw [List.length_map]; omega) ?_)
              intro v3 w3 hk3
              have HK3 := Lib.hid hk3
              clear hk3 HK2
              go_wp2
              go_roundw
              case rel => exact ⟨r, ts ++ [(kwKind (s.extract q r), s.extract q r)], by go_num, by omega, Lib.hid ⟨by rw [List.length_append]; simp; omega, HPR.out, by simpa using HK3.out⟩⟩
              case measure => simp [intOf]; omega
        | false =>
          have HDG : Hid (isD (byteAt s q) = true) := Lib.hid (by
            have h := HP.out q hlt
            rw [← HBY.out] at h ⊢
            simp only [okB, h1, h2, j3, Bool.or_false] at h
            exact h)
          go_wp2_with fail
          refine (spaceB _ _).mono ?_
          rw [h2]
          rintro e w1 ⟨rfl, rfl⟩
          go_wp2_with fail
          refine (punctB _ _).mono ?_
          rintro e w1 ⟨rfl, rfl⟩
          go_wp2_with fail
          refine (letterB _ _).mono ?_
          rw [h1]
          rintro e w1 ⟨rfl, rfl⟩
          go_wp2_with fail
          refine (modelNumber s q Z HP.out (by omega) hlt HDG.out).mono ?_
          rintro e w1 ⟨(⟨k, rfl, hrun, hk, hfit⟩ | ⟨j, rfl, hno⟩), hb⟩
          · have HPR := Lib.hid (HS.out.2.1.step hlt (.nu k HDG.out hrun))
            have HK1 := Lib.hid (HS.out.2.2.up hb)
            clear hrun hb
            go_wp2_with (at_builtin; refine wp_kinds rfl _ _ rfl w.heap.size w w1 _ _ (ts.map Prod.fst) (ts.map Prod.snd) 11 rfl rfl (by exact HK1.out) (by rw [List.length_map]; omega) ?_)
            intro v2 w2 hk2
            have HK2 := Lib.hid hk2
            clear hk2
            go_wp2_with (at_builtin; refine wp_datas rfl _ _ rfl w.heap.size w w2 v2 _ ((ts.map Prod.fst) ++ [11]) (ts.map Prod.snd) _ rfl rfl (by exact HK2.out) (by rw [List.length_map]; omega) ?_)
            intro v3 w3 hk3
            have HK3 := Lib.hid hk3
            clear hk3 HK2
            go_wp2
            go_roundw
            case rel => exact ⟨q + k, ts ++ [(11, ⟨(numBuf s q k).toArray⟩)], rfl, hfit, Lib.hid ⟨by rw [List.length_append]; simp; omega, HPR.out, by simpa using HK3.out⟩⟩
            case measure => simp [intOf]; omega
          · have HNO := Lib.hid (HS.out.2.1.fail hlt (.nf HDG.out hno))
            have HB := Lib.hid (HS.out.2.2.up hb).below
            clear hno hb
            go_wp2
            go_ret3
            exact ⟨.inr ⟨rfl, HNO.out⟩, HB.out⟩
    · have i1 : ¬ (q : Int) < (s.size : Int) := by omega
      have HRS := Lib.hid (HS.out.2.1.done (by omega))
      go_wp2_with (at_builtin; refine wp_kinds rfl _ _ rfl w.heap.size w Z _ _ (ts.map Prod.fst) (ts.map Prod.snd) 36 rfl rfl (by exact HS.out.2.2) (by rw [List.length_map]; omega) ?_)
      intro v2 w2 hk2
      have HK2 := Lib.hid hk2
      clear hk2
      go_wp2_with (at_builtin; refine wp_datas rfl _ _ rfl w.heap.size w w2 v2 _ ((ts.map Prod.fst) ++ [36]) (ts.map Prod.snd) ⟨#[]⟩ rfl rfl (by exact HK2.out) (by rw [List.length_map]; omega) ?_)
      intro v3 w3 hk3
      have HK3 := Lib.hid hk3
      clear hk3 HK2
      have hts : ts.length ≤ s.size := by omega
      go_wp2
      go_ret3
      exact ⟨.inl ⟨ts, _, _, rfl, HRS.out, hts, by simpa using HK3.out⟩, HK3.out.below⟩

end Lx
end Go.Proofs.YthohpccmleodpaaFmt
